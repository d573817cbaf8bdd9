import JvmDerived
import JvmDerived.Pilot.@@N@@Statement
import JvmDerived.Pilot.@@N@@Code
set_option linter.unusedVariables false
set_option linter.unusedSimpArgs false
namespace Jvm.RoadKit
open Sem ClassFile Op Lib Jvm.Stand Jvm.Free Jvm.LawKit
section New
variable {p : Program} {l : Launch} {e : Env} {R : Room} {s : State} {m : MethodId} {args : Array Value} {below : List Frame} {meth : Method} {c : Code} {T : State} {locs : List Loc} {cells slots : Nat}
theorem retI (X : Stand p l e R s m args below meth c T locs cells slots) (hx : p.tables.exec = Jvm.exec) {pc : Nat} {Ls : Array Slot} {z : Int32} {rest : List Value} (hret : meth.sig.returnType = some .int) (hd : decode c.code pc = .ok (.ireturn, 1)) {fs : List Frame}
    (hl : ∀ (f : JFrame) (acts : List Action), f.method = m → f.locked = none → f.entered = [] → (doReturn e (T.setTop f) acts (some (.int z))).1 = T.setFrames fs) : Steps p.tables e below (T.setTop (mkF m pc Ls (.int z :: rest))) (T.setFrames fs) := by
  have hm' : T.vm.method? m = some meth := X.method'
  have hn : narrow .int (.int z) = .int z := rfl
  show Steps p.tables e below (T.setTop { method := m, pc := pc, locals := Ls, stack := _ :: rest, locked := none }) _
  jvm_step X.here [X.here.top, hx, hd, hm', hret, hn]
  first | (intro acts; rw [hl _ acts rfl rfl rfl]) | rw [hl _ _ rfl rfl rfl]
  exact Steps.refl _
end New
variable {Z : State} {h h' : Heap} {C n d : String} {v w : Value} {ws : List Addr}
theorem own_staKeep (F : Sta Z h C n d v) (K : Keep h h' ws) (q : ∀ x ∈ ws, ∀ c : Cell, h[x]? = some c → c.vm.isStatics = false) : Sta Z h' C n d v := by
  obtain ⟨cf, i, k, f, st, cell, h1, h2, h3, h4, h5, h6, h7⟩ := F
  refine ⟨cf, i, k, f, st, cell, h1, h2, h3, h4, K.2.1 _ _ h5 (fun r => ?_), h6, h7⟩
  rw [q _ r _ h5] at h6; cases h6
theorem own_staNew {n0 : Nat} (F : Sta Z h C n d v) (K : Keep h h' ws) (hn : ∀ x ∈ ws, n0 ≤ x) (hs : ∀ (x : Addr) (c : Cell), h[x]? = some c → c.vm.isStatics = true → x < n0) : Sta Z h' C n d v := by
  obtain ⟨cf, i, k, f, st, cell, h1, h2, h3, h4, h5, h6, h7⟩ := F
  exact ⟨cf, i, k, f, st, cell, h1, h2, h3, h4, K.2.1 _ _ h5 (fun r => absurd (hs _ _ h5 h6) (Nat.not_lt.mpr (hn _ r))), h6, h7⟩
theorem own_fldI {args : Array Value} {s : State} {t : Term} {a : Addr} {C n d : String} {k : Int32} (ht : t.eval args s none [] s = some (.ref a)) (h : (Cond.eq (.field t C n d) (.int k)).value args s none s [] = some true) : Fld s s.heap a C n d (.int k) := Fld.start ((fld_at ht).symm.trans (eqv_i rfl h))
theorem own_fldR {args : Array Value} {s : State} {t u : Term} {a b : Addr} {C n d : String} (ht : t.eval args s none [] s = some (.ref a)) (hu : u.eval args s none [] s = some (.ref b)) (h : (Cond.eq (.field t C n d) u).value args s none s [] = some true) : Fld s s.heap a C n d (.ref b) := by
  obtain ⟨x, y, ex, ey, kx, ky⟩ := cmp_v (Or.inl h)
  have e1 : s.fieldOf? a C n d = some x := by rw [← fld_at ht]; exact ex
  cases hu.symm.trans ey
  have q : x = .ref b := by
    cases x <;> simp [Cond.value, ex, hu] at h ⊢
    exact h
  exact Fld.start (by rw [e1, q])
theorem own_staL {args : Array Value} {s : State} {C n d : String} {k : Int64} (h : (Cond.eq (.static C n d) (.long k)).value args s none s [] = some true) : (Term.static C n d).eval args s none [] s = some (.long k) := eqv_l rfl h
end Jvm.RoadKit
namespace Jvm.Pilot.@@N@@
open Jvm Jvm.ClassFile Sem Op Lib Jvm.Free Jvm.Stand Jvm.LawKit Jvm.RoadKit Bundle Jvm.Pilot.@@N@@.Jvm.D
theorem pd___V : parseMethodDescriptor "()V" = some ⟨[], none⟩ := by decide +kernel
theorem pd__I_V : parseMethodDescriptor "(I)V" = some ⟨[.int], none⟩ := by decide +kernel
theorem pd__ZI_V : parseMethodDescriptor "(ZI)V" = some ⟨[.boolean, .int], none⟩ := by decide +kernel
theorem pd__Ljava_lang_Object__Z : parseMethodDescriptor "(Ljava/lang/Object;)Z" = some ⟨[(.object "java/lang/Object")], some .boolean⟩ := by decide +kernel
theorem pd__I_Ljava_lang_Integer_ : parseMethodDescriptor "(I)Ljava/lang/Integer;" = some ⟨[.int], some (.object "java/lang/Integer")⟩ := by decide +kernel
def own_eq (e1 r1 e2 r2 : Int32) : Int32 := if e1 = 0 then (if e2 = 0 then (if r1 = r2 then 1 else 0) else 0) else e2
def own_bit (x m : Int32) : Int32 := if x &&& m = 0 then 0 else 1
def own_rb (ra c : Int32) : Int32 := if c &&& 1 = 0 then ra else c
theorem own_bit01 (x m : Int32) : own_bit x m = 0 ∨ own_bit x m = 1 := by
  unfold own_bit
  split
  · exact Or.inl rfl
  · exact Or.inr rfl
def own_N (Z : State) : Prop := ∃ c t, Z.vm.findClass "java/lang/Integer" = some c ∧ Z.vm.findClass "com/example/gated_chorus/gatedchorus/gate/Standing" = some t ∧ Z.vm.assignable c t = false
theorem own_not (Z : State) (a0 : Array Value) (hw : ∀ d ∈ tables_1, d.before a0 Z = true) : own_N Z := by
  obtain ⟨t, kt, t1, t2, t3, t4, -, -⟩ := Cond.instantiable_spec (hw _ (List.mem_of_getElem? (i := 1) rfl))
  obtain ⟨o, ko, o1, o2, o3, -, -⟩ := Cond.noSuperclass_spec (hw _ (List.mem_of_getElem? (i := 41) rfl))
  have n0 : NS Z "java/lang/Object" "com/example/gated_chorus/gatedchorus/gate/Standing" := ⟨o, t, o1, t1, fun fuel => by
    cases fuel with
    | zero => rfl
    | succ f => simp [Vm.isSubclassAux, ids_ne o1 t1 (by decide), o2, o3]⟩
  have n1 : NS Z "java/lang/Number" "com/example/gated_chorus/gatedchorus/gate/Standing" := NS.step (hw _ (List.mem_of_getElem? (i := 40) rfl)) n0 (by decide)
  have n2 : NS Z "java/lang/Integer" "com/example/gated_chorus/gatedchorus/gate/Standing" := NS.step (hw _ (List.mem_of_getElem? (i := 39) rfl)) n1 (by decide)
  obtain ⟨c, t', h0, g0, n3⟩ := n2
  cases g0.symm.trans t1
  obtain ⟨p, k, kp, h1, h2, h3, h4, h5, -, h7⟩ := Cond.superclass_spec h0 (hw _ (List.mem_of_getElem? (i := 39) rfl))
  have ne := ids_ne h0 t1 (by decide)
  refine ⟨c, t, h0, t1, ?_⟩
  show Z.vm.assignableAux (255 + 1) c t = false
  simp only [Bool.or_eq_false_iff] at t4
  simp [Vm.assignableAux, ne, h2, t2, h5, t3, t4.1, Vm.isSubclass, n3]
theorem d1_0 : decode prog_12_method_1_code 0 = .ok (.aload_n 0, 1) := by decide +kernel
theorem d1_1 : decode prog_12_method_1_code 1 = .ok (.invokespecial 1, 3) := by decide +kernel
theorem d1_4 : decode prog_12_method_1_code 4 = .ok (.aload_n 0, 1) := by decide +kernel
theorem d1_5 : decode prog_12_method_1_code 5 = .ok (.iload_n 1, 1) := by decide +kernel
theorem d1_6 : decode prog_12_method_1_code 6 = .ok (.putfield 7, 3) := by decide +kernel
theorem d1_9 : decode prog_12_method_1_code 9 = .ok (.aload_n 0, 1) := by decide +kernel
theorem d1_10 : decode prog_12_method_1_code 10 = .ok (.iload_n 2, 1) := by decide +kernel
theorem d1_11 : decode prog_12_method_1_code 11 = .ok (.putfield 13, 3) := by decide +kernel
theorem d1_14 : decode prog_12_method_1_code 14 = .ok (.return_, 1) := by decide +kernel
theorem ef_1 (m : MethodId) (x0 : Addr) (x1 : Int32) (x2 : Int32) : entryFrame m #[(.ref x0), (.int x1), (.int x2)] 3 = mkF m 0 #[.val (.ref x0), .val (.int x1), .val (.int x2)] [] := by first | (simp [entryFrame, mkF, argsToLocals, Value.category]; done) | rfl
theorem pn_com_example_gated_chorus_gatedchorus_gate_Standing : plainName "com/example/gated_chorus/gatedchorus/gate/Standing" = true := by first | (simp [plainName, overriddenIn]; done) | decide +kernel
def Q_1 (Z : State) (a1 : Addr) (p2 : Int32) (p3 : Int32) (h0 : Heap) (n0 : Nat) (v : Option Value) (h : Heap) (L : List Loc) : Prop := v = none ∧ Fr n0 L ∧ Keep h0 h [a1] ∧ Exa Z h a1 "com/example/gated_chorus/gatedchorus/gate/Standing" ∧ Fld Z h a1 "com/example/gated_chorus/gatedchorus/gate/Standing" "exempt" "Z" (.int p2) ∧ Fld Z h a1 "com/example/gated_chorus/gatedchorus/gate/Standing" "remainder" "I" (.int p3)
set_option maxRecDepth 65536 in
set_option maxHeartbeats 40000000 in
theorem rm_1 (l : Launch) (Z : State) (a0 : Array Value) (hw : ∀ d ∈ tables_1, d.before a0 Z = true) (ws : List Jvm.Cond) (a1 : Addr) (p2 : Int32) (p3 : Int32) (h0 : Heap) (n0 : Nat) (Z0 : n0 ≤ h0.size) (E_a1 : Exa Z h0 a1 "com/example/gated_chorus/gatedchorus/gate/Standing") (F_e : Fld Z h0 a1 "com/example/gated_chorus/gatedchorus/gate/Standing" "exempt" "Z" (.int (0 : Int32))) (F_r : Fld Z h0 a1 "com/example/gated_chorus/gatedchorus/gate/Standing" "remainder" "I" (.int (0 : Int32))) (g_a1 : n0 ≤ a1) (hb1 : p2 = (0 : Int32) ∨ p2 = (1 : Int32)) :
    MetFree l (⟨"com/example/gated_chorus/gatedchorus/gate/Standing", "<init>", "(ZI)V"⟩ : MethodName) (head1 (Jvm.Cond.code (⟨"com/example/gated_chorus/gatedchorus/gate/Standing", "<init>", "(ZI)V"⟩ : MethodName) prog_12_method_1_code 3 none :: ws) ({ frames := 1, cells := 0, slots := 0, locals := 12 } : Room)) (fun a U => a = #[(.ref a1), (.int p2), (.int p3)] ∧ Z.Warmed39 U.vm ∧ U.heap = h0) (fun _ _ _ _ _ => True) (fun _ U o U' => ∃ v L, o = .returned v ∧ Q_1 Z a1 p2 p3 h0 n0 v U'.heap L ∧ FrameEnd U o U' L ({ frames := 1, cells := 0, slots := 0, locals := 12 } : Room).cells ({ frames := 1, cells := 0, slots := 0, locals := 12 } : Room).slots) := by
  refine MetFree.of_bodySF (plainFor_of_name pn_com_example_gated_chorus_gatedchorus_gate_Standing) hisR ?_
  intro p e s m args below meth c s₁ Bd hml0 hP hK
  obtain ⟨rfl, hZ, hh⟩ := hP
  have hx := Bd.exec
  have hby := Bd.bytes
  have hml : c.maxLocals = 3 := hml0
  have hown : s.vm.findClass "com/example/gated_chorus/gatedchorus/gate/Standing" = some m.cls := findClass_of_methodNamed Bd.named
  have hnm := (name_of_methodNamed Bd.named Bd.method).1
  have X0 : Stand p l e ({ frames := 1, cells := 0, slots := 0, locals := 12 } : Room) s m #[(.ref a1), (.int p2), (.int p3)] below meth c s₁ [] 0 0 := Stand.of_body Bd
  have e0 : s₁.heap = h0 := by rw [← hh, Bd.state]; rfl
  have N0 := Fr.nil n0
  have pw0 : ∀ t, Steps p.tables e below (s₁.setTop (mkF m 0 #[.val (.ref a1), .val (.int p2), .val (.int p3)] [])) t → Steps p.tables e below (s₁.setTop (entryFrame m #[(.ref a1), (.int p2), (.int p3)] 3)) t := fun t k => castTop (ef_1 m a1 p2 p3) k
  have K0 : Keep h0 h0 [a1] := Keep.refl h0 [a1]
  obtain ⟨T1, X1, e1, st1⟩ := initO X0 hx hZ hown (hw _ (List.mem_of_getElem? (i := 6) rfl)) (hw _ (List.mem_of_getElem? (i := 7) rfl)) (hw _ (List.mem_of_getElem? (i := 8) rfl)) e0 (g := (mkF m 1 #[.val (.ref a1), .val (.int p2), .val (.int p3)] [(.ref a1)])) rfl (by rw [hml]; rfl) rfl (hb hby d1_1) (by decide) (W := 0) (by show 2 * 0 + _ ≤ _; exact Nat.le_of_eq rfl) (by decide)
  obtain ⟨T2, h2, X2, e2, W2, st2⟩ := putFN X1 hx hZ hown (hw _ (List.mem_of_getElem? (i := 9) rfl)) Via.refl e1 F_e E_a1 (Or.inr ⟨(hw _ (List.mem_of_getElem? (i := 10) rfl)), rfl, hnm⟩) (hw _ (List.mem_of_getElem? (i := 1) rfl)) (ty := .boolean) (v' := (.int p2)) (by decide) (by rcases hb1 with rfl | rfl <;> rfl) (by rcases hb1 with rfl | rfl <;> rfl) (g := (mkF m 6 #[.val (.ref a1), .val (.int p2), .val (.int p3)] [(.int p2), (.ref a1)])) rfl rfl (hb hby d1_6)
  have Fw2 := F_e.same W2
  have K2 : Keep h0 h2 [a1] := K0.wr W2 (Or.inl (List.mem_of_getElem? (i := 0) rfl))
  have N2 := Fr.snoc X2 N0 g_a1
  have Z2 : n0 ≤ h2.size := (Nat.le_trans Z0 (Nat.le_of_eq (Wr.size W2).symm))
  obtain ⟨T3, h3, X3, e3, W3, st3⟩ := putF X2 hx hZ hown (host := "") (Or.inl (hw _ (List.mem_of_getElem? (i := 11) rfl))) Via.refl e2 (F_r.other W2 (Or.inr (slot_ne (Or.inr (hw _ (List.mem_of_getElem? (i := 12) rfl))) (Or.inr (hw _ (List.mem_of_getElem? (i := 10) rfl))) (by decide) (t := .int) (t' := .boolean) (by decide) (by decide)))) (E_a1.wr W2) (Or.inr ⟨(hw _ (List.mem_of_getElem? (i := 12) rfl)), rfl, hnm⟩) (hw _ (List.mem_of_getElem? (i := 1) rfl)) (ty := .int) (by decide) rfl rfl (g := (mkF m 11 #[.val (.ref a1), .val (.int p2), .val (.int p3)] [(.int p3), (.ref a1)])) rfl rfl (hb hby d1_11)
  have Fw3 := (F_r.other W2 (Or.inr (slot_ne (Or.inr (hw _ (List.mem_of_getElem? (i := 12) rfl))) (Or.inr (hw _ (List.mem_of_getElem? (i := 10) rfl))) (by decide) (t := .int) (t' := .boolean) (by decide) (by decide)))).same W3
  have K3 : Keep h0 h3 [a1] := K2.wr W3 (Or.inl (List.mem_of_getElem? (i := 0) rfl))
  have N3 := Fr.snoc X3 N2 g_a1
  have Z3 : n0 ≤ h3.size := (Nat.le_trans Z2 (Nat.le_of_eq (Wr.size W3).symm))
  obtain ⟨fs, hr, hrun, hended, hW, hsame⟩ := X3.leave (v := none) (fun _ => rfl)
  refine ⟨_, _, pw0 _ ?_, hrun, hended, _, _, rfl, ?_, ⟨_, rfl⟩, hW, hsame.mono (by decide) (by decide)⟩
  · skip
    refine XS.aloadN X0.here hx rfl (hb hby d1_0) rfl rfl ?_
    show Steps p.tables e below (s₁.setTop (mkF m 1 #[.val (.ref a1), .val (.int p2), .val (.int p3)] [(.ref a1)])) _
    refine st1 _ ?_
    show Steps p.tables e below (T1.setTop (mkF m 4 #[.val (.ref a1), .val (.int p2), .val (.int p3)] [])) _
    refine XS.aloadN X1.here hx rfl (hb hby d1_4) rfl rfl ?_
    show Steps p.tables e below (T1.setTop (mkF m 5 #[.val (.ref a1), .val (.int p2), .val (.int p3)] [(.ref a1)])) _
    refine XS.iloadN X1.here hx rfl (hb hby d1_5) rfl ?_
    show Steps p.tables e below (T1.setTop (mkF m 6 #[.val (.ref a1), .val (.int p2), .val (.int p3)] [(.int p2), (.ref a1)])) _
    refine st2 _ ?_
    show Steps p.tables e below (T2.setTop (mkF m 9 #[.val (.ref a1), .val (.int p2), .val (.int p3)] [])) _
    refine XS.aloadN X2.here hx rfl (hb hby d1_9) rfl rfl ?_
    show Steps p.tables e below (T2.setTop (mkF m 10 #[.val (.ref a1), .val (.int p2), .val (.int p3)] [(.ref a1)])) _
    refine XS.iloadN X2.here hx rfl (hb hby d1_10) rfl ?_
    show Steps p.tables e below (T2.setTop (mkF m 11 #[.val (.ref a1), .val (.int p2), .val (.int p3)] [(.int p3), (.ref a1)])) _
    refine st3 _ ?_
    show Steps p.tables e below (T3.setTop (mkF m 14 #[.val (.ref a1), .val (.int p2), .val (.int p3)] [])) _
    exact X3.returnOut hx Bd.returns (hb hby d1_14) hr
  · show Q_1 Z a1 p2 p3 h0 n0 _ T3.heap _
    rw [e3]
    exact ⟨rfl, N3, K3, ((E_a1.wr W2).wr W3), (Fw2.other W3 (Or.inr (slot_ne (Or.inr (hw _ (List.mem_of_getElem? (i := 10) rfl))) (Or.inr (hw _ (List.mem_of_getElem? (i := 12) rfl))) (by decide) (t := .boolean) (t' := .int) (by decide) (by decide)))), Fw3⟩
theorem d3_0 : decode prog_12_method_3_code 0 = .ok (.aload_n 1, 1) := by decide +kernel
theorem d3_1 : decode prog_12_method_3_code 1 = .ok (.instanceof 8, 3) := by decide +kernel
theorem d3_4 : decode prog_12_method_3_code 4 = .ok (.ifCond .ne 5, 3) := by decide +kernel
theorem d3_7 : decode prog_12_method_3_code 7 = .ok (.iconst 0, 1) := by decide +kernel
theorem d3_8 : decode prog_12_method_3_code 8 = .ok (.ireturn, 1) := by decide +kernel
theorem ef_3n (m : MethodId) (x0 : Addr) : entryFrame m #[(.ref x0), .null] 3 = mkF m 0 #[.val (.ref x0), .val .null, .unset] [] := by first | (simp [entryFrame, mkF, argsToLocals, Value.category]; done) | rfl
def Q_3n (Z : State) (a1 : Addr) (h0 : Heap) (n0 : Nat) (v : Option Value) (h : Heap) (L : List Loc) : Prop := v = some (.int 0) ∧ Fr n0 L ∧ h = h0
set_option maxRecDepth 65536 in
set_option maxHeartbeats 40000000 in
theorem rm_3n (l : Launch) (Z : State) (a0 : Array Value) (hw : ∀ d ∈ tables_1, d.before a0 Z = true) (ws : List Jvm.Cond) (a1 : Addr) (h0 : Heap) (n0 : Nat) (Z0 : n0 ≤ h0.size)  :
    MetFree l (⟨"com/example/gated_chorus/gatedchorus/gate/Standing", "equals", "(Ljava/lang/Object;)Z"⟩ : MethodName) (head1 (Jvm.Cond.code (⟨"com/example/gated_chorus/gatedchorus/gate/Standing", "equals", "(Ljava/lang/Object;)Z"⟩ : MethodName) prog_12_method_3_code 3 (some .boolean) :: ws) ({ frames := 0, cells := 0, slots := 0, locals := 0 } : Room)) (fun a U => a = #[(.ref a1), .null] ∧ Z.Warmed39 U.vm ∧ U.heap = h0) (fun _ _ _ _ _ => True) (fun _ U o U' => ∃ v L, o = .returned v ∧ Q_3n Z a1 h0 n0 v U'.heap L ∧ FrameEnd U o U' L ({ frames := 0, cells := 0, slots := 0, locals := 0 } : Room).cells ({ frames := 0, cells := 0, slots := 0, locals := 0 } : Room).slots) := by
  refine MetFree.of_bodySF (plainFor_of_name pn_com_example_gated_chorus_gatedchorus_gate_Standing) hisR ?_
  intro p e s m args below meth c s₁ Bd hml0 hP hK
  obtain ⟨rfl, hZ, hh⟩ := hP
  have hx := Bd.exec
  have hby := Bd.bytes
  have hml : c.maxLocals = 3 := hml0
  have hown : s.vm.findClass "com/example/gated_chorus/gatedchorus/gate/Standing" = some m.cls := findClass_of_methodNamed Bd.named
  have hnm := (name_of_methodNamed Bd.named Bd.method).1
  have X0 : Stand p l e ({ frames := 0, cells := 0, slots := 0, locals := 0 } : Room) s m #[(.ref a1), .null] below meth c s₁ [] 0 0 := Stand.of_body Bd
  have e0 : s₁.heap = h0 := by rw [← hh, Bd.state]; rfl
  have N0 := Fr.nil n0
  have pw0 : ∀ t, Steps p.tables e below (s₁.setTop (mkF m 0 #[.val (.ref a1), .val .null, .unset] [])) t → Steps p.tables e below (s₁.setTop (entryFrame m #[(.ref a1), .null] 3)) t := fun t k => castTop (ef_3n m a1) k
  have K0 : Keep h0 h0 [] := Keep.refl h0 []
  obtain ⟨fs, hr, hrun, hended, hW, hsame⟩ := X0.leave (v := some (.int (0 : Int32))) (fun h => by rw [Bd.returns] at h; cases h)
  refine ⟨_, _, pw0 _ ?_, hrun, hended, _, _, rfl, ?_, ⟨_, rfl⟩, hW, hsame.mono (by decide) (by decide)⟩
  · skip
    refine XS.aloadN X0.here hx rfl (hb hby d3_0) rfl rfl ?_
    show Steps p.tables e below (s₁.setTop (mkF m 1 #[.val (.ref a1), .val .null, .unset] [.null])) _
    refine X0.instanceofNull hx (g := (mkF m 1 #[.val (.ref a1), .val .null, .unset] [.null])) rfl rfl (hb hby d3_1) _ ?_
    show Steps p.tables e below (s₁.setTop (mkF m 4 #[.val (.ref a1), .val .null, .unset] [(.int (0 : Int32))])) _
    refine XS.ifNo X0.here hx rfl (hb hby d3_4) rfl ((if0 _ _).trans (teq (by decide : (0 : Int32) = (0 : Int32))).2) ?_
    show Steps p.tables e below (s₁.setTop (mkF m 7 #[.val (.ref a1), .val .null, .unset] [])) _
    refine XS.iconst X0.here hx rfl (hb hby d3_7) ?_
    show Steps p.tables e below (s₁.setTop (mkF m 8 #[.val (.ref a1), .val .null, .unset] [(.int (0 : Int32))])) _
    exact retN X0 hx (t := .boolean) Bd.returns (by simp) (hb hby d3_8) hr
  · show Q_3n Z a1 h0 n0 _ s₁.heap _
    rw [e0]
    exact ⟨rfl, N0, rfl⟩
theorem ef_3i (m : MethodId) (x0 : Addr) (x1 : Addr) : entryFrame m #[(.ref x0), (.ref x1)] 3 = mkF m 0 #[.val (.ref x0), .val (.ref x1), .unset] [] := by first | (simp [entryFrame, mkF, argsToLocals, Value.category]; done) | rfl
def Q_3i (Z : State) (a1 : Addr) (a2 : Addr) (h0 : Heap) (n0 : Nat) (v : Option Value) (h : Heap) (L : List Loc) : Prop := v = some (.int 0) ∧ Fr n0 L ∧ h = h0
set_option maxRecDepth 65536 in
set_option maxHeartbeats 40000000 in
theorem rm_3i (l : Launch) (Z : State) (a0 : Array Value) (hw : ∀ d ∈ tables_1, d.before a0 Z = true) (ws : List Jvm.Cond) (a1 : Addr) (a2 : Addr) (h0 : Heap) (n0 : Nat) (Z0 : n0 ≤ h0.size) (E_a2 : Exa Z h0 a2 "java/lang/Integer") (hN : own_N Z) :
    MetFree l (⟨"com/example/gated_chorus/gatedchorus/gate/Standing", "equals", "(Ljava/lang/Object;)Z"⟩ : MethodName) (head1 (Jvm.Cond.code (⟨"com/example/gated_chorus/gatedchorus/gate/Standing", "equals", "(Ljava/lang/Object;)Z"⟩ : MethodName) prog_12_method_3_code 3 (some .boolean) :: ws) ({ frames := 0, cells := 0, slots := 0, locals := 0 } : Room)) (fun a U => a = #[(.ref a1), (.ref a2)] ∧ Z.Warmed39 U.vm ∧ U.heap = h0) (fun _ _ _ _ _ => True) (fun _ U o U' => ∃ v L, o = .returned v ∧ Q_3i Z a1 a2 h0 n0 v U'.heap L ∧ FrameEnd U o U' L ({ frames := 0, cells := 0, slots := 0, locals := 0 } : Room).cells ({ frames := 0, cells := 0, slots := 0, locals := 0 } : Room).slots) := by
  refine MetFree.of_bodySF (plainFor_of_name pn_com_example_gated_chorus_gatedchorus_gate_Standing) hisR ?_
  intro p e s m args below meth c s₁ Bd hml0 hP hK
  obtain ⟨rfl, hZ, hh⟩ := hP
  have hx := Bd.exec
  have hby := Bd.bytes
  have hml : c.maxLocals = 3 := hml0
  have hown : s.vm.findClass "com/example/gated_chorus/gatedchorus/gate/Standing" = some m.cls := findClass_of_methodNamed Bd.named
  have hnm := (name_of_methodNamed Bd.named Bd.method).1
  have X0 : Stand p l e ({ frames := 0, cells := 0, slots := 0, locals := 0 } : Room) s m #[(.ref a1), (.ref a2)] below meth c s₁ [] 0 0 := Stand.of_body Bd
  have e0 : s₁.heap = h0 := by rw [← hh, Bd.state]; rfl
  have N0 := Fr.nil n0
  have pw0 : ∀ t, Steps p.tables e below (s₁.setTop (mkF m 0 #[.val (.ref a1), .val (.ref a2), .unset] [])) t → Steps p.tables e below (s₁.setTop (entryFrame m #[(.ref a1), (.ref a2)] 3)) t := fun t k => castTop (ef_3i m a1 a2) k
  have K0 : Keep h0 h0 [] := Keep.refl h0 []
  obtain ⟨T4, X4, e4, st4⟩ := instNo X0 hx hZ hown (hw _ (List.mem_of_getElem? (i := 18) rfl)) e0 E_a2 hN (g := (mkF m 1 #[.val (.ref a1), .val (.ref a2), .unset] [(.ref a2)])) rfl rfl (hb hby d3_1)
  obtain ⟨fs, hr, hrun, hended, hW, hsame⟩ := X4.leave (v := some (.int (0 : Int32))) (fun h => by rw [Bd.returns] at h; cases h)
  refine ⟨_, _, pw0 _ ?_, hrun, hended, _, _, rfl, ?_, ⟨_, rfl⟩, hW, hsame.mono (by decide) (by decide)⟩
  · skip
    refine XS.aloadN X0.here hx rfl (hb hby d3_0) rfl rfl ?_
    show Steps p.tables e below (s₁.setTop (mkF m 1 #[.val (.ref a1), .val (.ref a2), .unset] [(.ref a2)])) _
    refine st4 _ ?_
    show Steps p.tables e below (T4.setTop (mkF m 4 #[.val (.ref a1), .val (.ref a2), .unset] [(.int (0 : Int32))])) _
    refine XS.ifNo X4.here hx rfl (hb hby d3_4) rfl ((if0 _ _).trans (teq (by decide : (0 : Int32) = (0 : Int32))).2) ?_
    show Steps p.tables e below (T4.setTop (mkF m 7 #[.val (.ref a1), .val (.ref a2), .unset] [])) _
    refine XS.iconst X4.here hx rfl (hb hby d3_7) ?_
    show Steps p.tables e below (T4.setTop (mkF m 8 #[.val (.ref a1), .val (.ref a2), .unset] [(.int (0 : Int32))])) _
    exact retN X4 hx (t := .boolean) Bd.returns (by simp) (hb hby d3_8) hr
  · show Q_3i Z a1 a2 h0 n0 _ T4.heap _
    rw [e4]
    exact ⟨rfl, N0, rfl⟩
theorem d3_9 : decode prog_12_method_3_code 9 = .ok (.aload_n 1, 1) := by decide +kernel
theorem d3_10 : decode prog_12_method_3_code 10 = .ok (.checkcast 8, 3) := by decide +kernel
theorem d3_13 : decode prog_12_method_3_code 13 = .ok (.astore_n 2, 1) := by decide +kernel
theorem d3_14 : decode prog_12_method_3_code 14 = .ok (.aload_n 0, 1) := by decide +kernel
theorem d3_15 : decode prog_12_method_3_code 15 = .ok (.getfield 7, 3) := by decide +kernel
theorem d3_18 : decode prog_12_method_3_code 18 = .ok (.ifCond .eq 10, 3) := by decide +kernel
theorem d3_21 : decode prog_12_method_3_code 21 = .ok (.aload_n 2, 1) := by decide +kernel
theorem d3_22 : decode prog_12_method_3_code 22 = .ok (.getfield 7, 3) := by decide +kernel
theorem d3_25 : decode prog_12_method_3_code 25 = .ok (.goto 26, 3) := by decide +kernel
theorem d3_28 : decode prog_12_method_3_code 28 = .ok (.aload_n 2, 1) := by decide +kernel
theorem d3_29 : decode prog_12_method_3_code 29 = .ok (.getfield 7, 3) := by decide +kernel
theorem d3_32 : decode prog_12_method_3_code 32 = .ok (.ifCond .ne 18, 3) := by decide +kernel
theorem d3_35 : decode prog_12_method_3_code 35 = .ok (.aload_n 0, 1) := by decide +kernel
theorem d3_36 : decode prog_12_method_3_code 36 = .ok (.getfield 13, 3) := by decide +kernel
theorem d3_39 : decode prog_12_method_3_code 39 = .ok (.aload_n 2, 1) := by decide +kernel
theorem d3_40 : decode prog_12_method_3_code 40 = .ok (.getfield 13, 3) := by decide +kernel
theorem d3_43 : decode prog_12_method_3_code 43 = .ok (.if_icmp .ne 7, 3) := by decide +kernel
theorem d3_46 : decode prog_12_method_3_code 46 = .ok (.iconst 1, 1) := by decide +kernel
theorem d3_47 : decode prog_12_method_3_code 47 = .ok (.goto 4, 3) := by decide +kernel
theorem d3_50 : decode prog_12_method_3_code 50 = .ok (.iconst 0, 1) := by decide +kernel
theorem d3_51 : decode prog_12_method_3_code 51 = .ok (.ireturn, 1) := by decide +kernel
theorem ef_3s (m : MethodId) (x0 : Addr) (x1 : Addr) : entryFrame m #[(.ref x0), (.ref x1)] 3 = mkF m 0 #[.val (.ref x0), .val (.ref x1), .unset] [] := by first | (simp [entryFrame, mkF, argsToLocals, Value.category]; done) | rfl
def Q_3s (Z : State) (a1 : Addr) (a2 : Addr) (e1 r1 e2 r2 r : Int32) (h0 : Heap) (n0 : Nat) (v : Option Value) (h : Heap) (L : List Loc) : Prop := v = some (.int r) ∧ Fr n0 L ∧ h = h0
set_option maxRecDepth 65536 in
set_option maxHeartbeats 40000000 in
theorem rm_3s (l : Launch) (Z : State) (a0 : Array Value) (hw : ∀ d ∈ tables_1, d.before a0 Z = true) (ws : List Jvm.Cond) (a1 : Addr) (a2 : Addr) (e1 r1 e2 r2 r : Int32) (h0 : Heap) (n0 : Nat) (Z0 : n0 ≤ h0.size) (E_a2 : Exa Z h0 a2 "com/example/gated_chorus/gatedchorus/gate/Standing") (F_e1 : Fld Z h0 a1 "com/example/gated_chorus/gatedchorus/gate/Standing" "exempt" "Z" (.int e1)) (F_r1 : Fld Z h0 a1 "com/example/gated_chorus/gatedchorus/gate/Standing" "remainder" "I" (.int r1)) (F_e2 : Fld Z h0 a2 "com/example/gated_chorus/gatedchorus/gate/Standing" "exempt" "Z" (.int e2)) (F_r2 : Fld Z h0 a2 "com/example/gated_chorus/gatedchorus/gate/Standing" "remainder" "I" (.int r2)) (hb2 : e2 = (0 : Int32) ∨ e2 = (1 : Int32)) (hsp : own_eq e1 r1 e2 r2 = r) :
    MetFree l (⟨"com/example/gated_chorus/gatedchorus/gate/Standing", "equals", "(Ljava/lang/Object;)Z"⟩ : MethodName) (head1 (Jvm.Cond.code (⟨"com/example/gated_chorus/gatedchorus/gate/Standing", "equals", "(Ljava/lang/Object;)Z"⟩ : MethodName) prog_12_method_3_code 3 (some .boolean) :: ws) ({ frames := 0, cells := 0, slots := 0, locals := 0 } : Room)) (fun a U => a = #[(.ref a1), (.ref a2)] ∧ Z.Warmed39 U.vm ∧ U.heap = h0) (fun _ _ _ _ _ => True) (fun _ U o U' => ∃ v L, o = .returned v ∧ Q_3s Z a1 a2 e1 r1 e2 r2 r h0 n0 v U'.heap L ∧ FrameEnd U o U' L ({ frames := 0, cells := 0, slots := 0, locals := 0 } : Room).cells ({ frames := 0, cells := 0, slots := 0, locals := 0 } : Room).slots) := by
  refine MetFree.of_bodySF (plainFor_of_name pn_com_example_gated_chorus_gatedchorus_gate_Standing) hisR ?_
  intro p e s m args below meth c s₁ Bd hml0 hP hK
  obtain ⟨rfl, hZ, hh⟩ := hP
  have hx := Bd.exec
  have hby := Bd.bytes
  have hml : c.maxLocals = 3 := hml0
  have hown : s.vm.findClass "com/example/gated_chorus/gatedchorus/gate/Standing" = some m.cls := findClass_of_methodNamed Bd.named
  have hnm := (name_of_methodNamed Bd.named Bd.method).1
  have X0 : Stand p l e ({ frames := 0, cells := 0, slots := 0, locals := 0 } : Room) s m #[(.ref a1), (.ref a2)] below meth c s₁ [] 0 0 := Stand.of_body Bd
  have e0 : s₁.heap = h0 := by rw [← hh, Bd.state]; rfl
  have N0 := Fr.nil n0
  have pw0 : ∀ t, Steps p.tables e below (s₁.setTop (mkF m 0 #[.val (.ref a1), .val (.ref a2), .unset] [])) t → Steps p.tables e below (s₁.setTop (entryFrame m #[(.ref a1), (.ref a2)] 3)) t := fun t k => castTop (ef_3s m a1 a2) k
  have K0 : Keep h0 h0 [] := Keep.refl h0 []
  obtain ⟨T5, X5, e5, st5⟩ := instY X0 hx hZ hown (hw _ (List.mem_of_getElem? (i := 18) rfl)) e0 (Ins.self E_a2) (g := (mkF m 1 #[.val (.ref a1), .val (.ref a2), .unset] [(.ref a2)])) rfl rfl (hb hby d3_1)
  obtain ⟨T6, X6, e6, st6⟩ := castY X5 hx hZ hown (hw _ (List.mem_of_getElem? (i := 18) rfl)) e5 (Ins.self E_a2) (g := (mkF m 10 #[.val (.ref a1), .val (.ref a2), .unset] [(.ref a2)])) rfl rfl (hb hby d3_10)
  obtain ⟨T7, X7, e7, st7⟩ := getF X6 hx hZ hown (host := "") (Or.inl (hw _ (List.mem_of_getElem? (i := 9) rfl))) Via.refl e6 F_e1 (g := (mkF m 15 #[.val (.ref a1), .val (.ref a2), .val (.ref a2)] [(.ref a1)])) rfl rfl (hb hby d3_15)
  have pw8 : ∀ t, Steps p.tables e below (T7.setTop (mkF m 18 #[.val (.ref a1), .val (.ref a2), .val (.ref a2)] [(.int e1)])) t → Steps p.tables e below (s₁.setTop (entryFrame m #[(.ref a1), (.ref a2)] 3)) t := by
    intro t k
    refine pw0 t ?_
    refine XS.aloadN X0.here hx rfl (hb hby d3_0) rfl rfl ?_
    show Steps p.tables e below (s₁.setTop (mkF m 1 #[.val (.ref a1), .val (.ref a2), .unset] [(.ref a2)])) _
    refine st5 _ ?_
    show Steps p.tables e below (T5.setTop (mkF m 4 #[.val (.ref a1), .val (.ref a2), .unset] [(.int (1 : Int32))])) _
    refine XS.ifYes X5.here hx rfl (pc0 := 4) (pc' := 9) rfl (hb hby d3_4) rfl ((if0 _ _).trans (feq (by decide : ¬ ((1 : Int32) = (0 : Int32)))).2) (by decide) (by decide) ?_
    show Steps p.tables e below (T5.setTop (mkF m 9 #[.val (.ref a1), .val (.ref a2), .unset] [])) _
    refine XS.aloadN X5.here hx rfl (hb hby d3_9) rfl rfl ?_
    show Steps p.tables e below (T5.setTop (mkF m 10 #[.val (.ref a1), .val (.ref a2), .unset] [(.ref a2)])) _
    refine st6 _ ?_
    show Steps p.tables e below (T6.setTop (mkF m 13 #[.val (.ref a1), .val (.ref a2), .unset] [(.ref a2)])) _
    refine XS.astoreN X6.here hx rfl (hb hby d3_13) rfl rfl (l' := #[.val (.ref a1), .val (.ref a2), .val (.ref a2)]) rfl ?_
    show Steps p.tables e below (T6.setTop (mkF m 14 #[.val (.ref a1), .val (.ref a2), .val (.ref a2)] [])) _
    refine XS.aloadN X6.here hx rfl (hb hby d3_14) rfl rfl ?_
    show Steps p.tables e below (T6.setTop (mkF m 15 #[.val (.ref a1), .val (.ref a2), .val (.ref a2)] [(.ref a1)])) _
    refine st7 _ ?_
    show Steps p.tables e below (T7.setTop (mkF m 18 #[.val (.ref a1), .val (.ref a2), .val (.ref a2)] [(.int e1)])) _
    exact k
  by_cases hc9 : e1 = (0 : Int32)
  · skip
    obtain ⟨T10, X10, e10, st10⟩ := getF X7 hx hZ hown (host := "") (Or.inl (hw _ (List.mem_of_getElem? (i := 9) rfl))) Via.refl e7 F_e2 (g := (mkF m 29 #[.val (.ref a1), .val (.ref a2), .val (.ref a2)] [(.ref a2)])) rfl rfl (hb hby d3_29)
    have pw11 : ∀ t, Steps p.tables e below (T10.setTop (mkF m 32 #[.val (.ref a1), .val (.ref a2), .val (.ref a2)] [(.int e2)])) t → Steps p.tables e below (s₁.setTop (entryFrame m #[(.ref a1), (.ref a2)] 3)) t := by
      intro t k
      refine pw8 t ?_
      refine XS.ifYes X7.here hx rfl (pc0 := 18) (pc' := 28) rfl (hb hby d3_18) rfl ((if0 _ _).trans (teq hc9).1) (by decide) (by decide) ?_
      show Steps p.tables e below (T7.setTop (mkF m 28 #[.val (.ref a1), .val (.ref a2), .val (.ref a2)] [])) _
      refine XS.aloadN X7.here hx rfl (hb hby d3_28) rfl rfl ?_
      show Steps p.tables e below (T7.setTop (mkF m 29 #[.val (.ref a1), .val (.ref a2), .val (.ref a2)] [(.ref a2)])) _
      refine st10 _ ?_
      show Steps p.tables e below (T10.setTop (mkF m 32 #[.val (.ref a1), .val (.ref a2), .val (.ref a2)] [(.int e2)])) _
      exact k
    by_cases hc12 : e2 = (0 : Int32)
    · skip
      obtain ⟨T13, X13, e13, st13⟩ := getF X10 hx hZ hown (host := "") (Or.inl (hw _ (List.mem_of_getElem? (i := 11) rfl))) Via.refl e10 F_r1 (g := (mkF m 36 #[.val (.ref a1), .val (.ref a2), .val (.ref a2)] [(.ref a1)])) rfl rfl (hb hby d3_36)
      obtain ⟨T14, X14, e14, st14⟩ := getF X13 hx hZ hown (host := "") (Or.inl (hw _ (List.mem_of_getElem? (i := 11) rfl))) Via.refl e13 F_r2 (g := (mkF m 40 #[.val (.ref a1), .val (.ref a2), .val (.ref a2)] [(.ref a2), (.int r1)])) rfl rfl (hb hby d3_40)
      have pw15 : ∀ t, Steps p.tables e below (T14.setTop (mkF m 43 #[.val (.ref a1), .val (.ref a2), .val (.ref a2)] [(.int r2), (.int r1)])) t → Steps p.tables e below (s₁.setTop (entryFrame m #[(.ref a1), (.ref a2)] 3)) t := by
        intro t k
        refine pw11 t ?_
        refine XS.ifNo X10.here hx rfl (hb hby d3_32) rfl ((if0 _ _).trans (teq hc12).2) ?_
        show Steps p.tables e below (T10.setTop (mkF m 35 #[.val (.ref a1), .val (.ref a2), .val (.ref a2)] [])) _
        refine XS.aloadN X10.here hx rfl (hb hby d3_35) rfl rfl ?_
        show Steps p.tables e below (T10.setTop (mkF m 36 #[.val (.ref a1), .val (.ref a2), .val (.ref a2)] [(.ref a1)])) _
        refine st13 _ ?_
        show Steps p.tables e below (T13.setTop (mkF m 39 #[.val (.ref a1), .val (.ref a2), .val (.ref a2)] [(.int r1)])) _
        refine XS.aloadN X13.here hx rfl (hb hby d3_39) rfl rfl ?_
        show Steps p.tables e below (T13.setTop (mkF m 40 #[.val (.ref a1), .val (.ref a2), .val (.ref a2)] [(.ref a2), (.int r1)])) _
        refine st14 _ ?_
        show Steps p.tables e below (T14.setTop (mkF m 43 #[.val (.ref a1), .val (.ref a2), .val (.ref a2)] [(.int r2), (.int r1)])) _
        exact k
      by_cases hc16 : r1 = r2
      · skip
        obtain ⟨fs, hr, hrun, hended, hW, hsame⟩ := X14.leave (v := some (.int (1 : Int32))) (fun h => by rw [Bd.returns] at h; cases h)
        refine ⟨_, _, pw15 _ ?_, hrun, hended, _, _, rfl, ?_, ⟨_, rfl⟩, hW, hsame.mono (by decide) (by decide)⟩
        · skip
          refine XS.icmpNo X14.here hx rfl (hb hby d3_43) rfl (teq hc16).2 ?_
          show Steps p.tables e below (T14.setTop (mkF m 46 #[.val (.ref a1), .val (.ref a2), .val (.ref a2)] [])) _
          refine XS.iconst X14.here hx rfl (hb hby d3_46) ?_
          show Steps p.tables e below (T14.setTop (mkF m 47 #[.val (.ref a1), .val (.ref a2), .val (.ref a2)] [(.int (1 : Int32))])) _
          refine XS.goto X14.here hx rfl (pc0 := 47) (pc' := 51) rfl (hb hby d3_47) (by decide) (by decide) ?_
          show Steps p.tables e below (T14.setTop (mkF m 51 #[.val (.ref a1), .val (.ref a2), .val (.ref a2)] [(.int (1 : Int32))])) _
          exact retN X14 hx (t := .boolean) Bd.returns (by simp) (hb hby d3_51) hr
        · show Q_3s Z a1 a2 e1 r1 e2 r2 r h0 n0 _ T14.heap _
          rw [e14]
          exact ⟨by rw [← hsp]; unfold own_eq; rw [if_pos hc9, if_pos hc12, if_pos hc16], N0, rfl⟩
      · skip
        obtain ⟨fs, hr, hrun, hended, hW, hsame⟩ := X14.leave (v := some (.int (0 : Int32))) (fun h => by rw [Bd.returns] at h; cases h)
        refine ⟨_, _, pw15 _ ?_, hrun, hended, _, _, rfl, ?_, ⟨_, rfl⟩, hW, hsame.mono (by decide) (by decide)⟩
        · skip
          refine XS.icmpYes X14.here hx rfl (pc0 := 43) (pc' := 50) rfl (hb hby d3_43) rfl (feq hc16).2 (by decide) (by decide) ?_
          show Steps p.tables e below (T14.setTop (mkF m 50 #[.val (.ref a1), .val (.ref a2), .val (.ref a2)] [])) _
          refine XS.iconst X14.here hx rfl (hb hby d3_50) ?_
          show Steps p.tables e below (T14.setTop (mkF m 51 #[.val (.ref a1), .val (.ref a2), .val (.ref a2)] [(.int (0 : Int32))])) _
          exact retN X14 hx (t := .boolean) Bd.returns (by simp) (hb hby d3_51) hr
        · show Q_3s Z a1 a2 e1 r1 e2 r2 r h0 n0 _ T14.heap _
          rw [e14]
          exact ⟨by rw [← hsp]; unfold own_eq; rw [if_pos hc9, if_pos hc12, if_neg hc16], N0, rfl⟩
    · skip
      obtain ⟨fs, hr, hrun, hended, hW, hsame⟩ := X10.leave (v := some (.int (0 : Int32))) (fun h => by rw [Bd.returns] at h; cases h)
      refine ⟨_, _, pw11 _ ?_, hrun, hended, _, _, rfl, ?_, ⟨_, rfl⟩, hW, hsame.mono (by decide) (by decide)⟩
      · skip
        refine XS.ifYes X10.here hx rfl (pc0 := 32) (pc' := 50) rfl (hb hby d3_32) rfl ((if0 _ _).trans (feq hc12).2) (by decide) (by decide) ?_
        show Steps p.tables e below (T10.setTop (mkF m 50 #[.val (.ref a1), .val (.ref a2), .val (.ref a2)] [])) _
        refine XS.iconst X10.here hx rfl (hb hby d3_50) ?_
        show Steps p.tables e below (T10.setTop (mkF m 51 #[.val (.ref a1), .val (.ref a2), .val (.ref a2)] [(.int (0 : Int32))])) _
        exact retN X10 hx (t := .boolean) Bd.returns (by simp) (hb hby d3_51) hr
      · show Q_3s Z a1 a2 e1 r1 e2 r2 r h0 n0 _ T10.heap _
        rw [e10]
        exact ⟨by rw [← hsp]; unfold own_eq; rw [if_pos hc9, if_neg hc12], N0, rfl⟩
  · skip
    obtain ⟨T17, X17, e17, st17⟩ := getF X7 hx hZ hown (host := "") (Or.inl (hw _ (List.mem_of_getElem? (i := 9) rfl))) Via.refl e7 F_e2 (g := (mkF m 22 #[.val (.ref a1), .val (.ref a2), .val (.ref a2)] [(.ref a2)])) rfl rfl (hb hby d3_22)
    obtain ⟨fs, hr, hrun, hended, hW, hsame⟩ := X17.leave (v := some (.int e2)) (fun h => by rw [Bd.returns] at h; cases h)
    refine ⟨_, _, pw8 _ ?_, hrun, hended, _, _, rfl, ?_, ⟨_, rfl⟩, hW, hsame.mono (by decide) (by decide)⟩
    · skip
      refine XS.ifNo X7.here hx rfl (hb hby d3_18) rfl ((if0 _ _).trans (feq hc9).1) ?_
      show Steps p.tables e below (T7.setTop (mkF m 21 #[.val (.ref a1), .val (.ref a2), .val (.ref a2)] [])) _
      refine XS.aloadN X7.here hx rfl (hb hby d3_21) rfl rfl ?_
      show Steps p.tables e below (T7.setTop (mkF m 22 #[.val (.ref a1), .val (.ref a2), .val (.ref a2)] [(.ref a2)])) _
      refine st17 _ ?_
      show Steps p.tables e below (T17.setTop (mkF m 25 #[.val (.ref a1), .val (.ref a2), .val (.ref a2)] [(.int e2)])) _
      refine XS.goto X17.here hx rfl (pc0 := 25) (pc' := 51) rfl (hb hby d3_25) (by decide) (by decide) ?_
      show Steps p.tables e below (T17.setTop (mkF m 51 #[.val (.ref a1), .val (.ref a2), .val (.ref a2)] [(.int e2)])) _
      exact retOut X17 hx Bd.returns (by rcases hb2 with rfl | rfl <;> rfl) (Or.inl ⟨rfl, by simp, _, rfl⟩) (hb hby d3_51) hr
    · show Q_3s Z a1 a2 e1 r1 e2 r2 r h0 n0 _ T17.heap _
      rw [e17]
      exact ⟨by rw [← hsp]; unfold own_eq; rw [if_neg hc9], N0, rfl⟩
theorem d6_0 : decode jdk_18_method_1_code 0 = .ok (.aload_n 0, 1) := by decide +kernel
theorem d6_1 : decode jdk_18_method_1_code 1 = .ok (.invokespecial 1, 3) := by decide +kernel
theorem d6_4 : decode jdk_18_method_1_code 4 = .ok (.return_, 1) := by decide +kernel
theorem ef_6 (m : MethodId) (x0 : Addr) : entryFrame m #[(.ref x0)] 1 = mkF m 0 #[.val (.ref x0)] [] := by first | (simp [entryFrame, mkF, argsToLocals, Value.category]; done) | rfl
theorem pn_java_lang_Number : plainName "java/lang/Number" = true := by first | (simp [plainName, overriddenIn]; done) | decide +kernel
def Q_6 (Z : State) (a1 : Addr) (h0 : Heap) (n0 : Nat) (v : Option Value) (h : Heap) (L : List Loc) : Prop := v = none ∧ Fr n0 L ∧ h = h0
set_option maxRecDepth 65536 in
set_option maxHeartbeats 40000000 in
theorem rm_6 (l : Launch) (Z : State) (a0 : Array Value) (hw : ∀ d ∈ tables_1, d.before a0 Z = true) (ws : List Jvm.Cond) (a1 : Addr) (h0 : Heap) (n0 : Nat) (Z0 : n0 ≤ h0.size)  :
    MetFree l (⟨"java/lang/Number", "<init>", "()V"⟩ : MethodName) (head1 (Jvm.Cond.code (⟨"java/lang/Number", "<init>", "()V"⟩ : MethodName) jdk_18_method_1_code 1 none :: ws) ({ frames := 1, cells := 0, slots := 0, locals := 12 } : Room)) (fun a U => a = #[(.ref a1)] ∧ Z.Warmed39 U.vm ∧ U.heap = h0) (fun _ _ _ _ _ => True) (fun _ U o U' => ∃ v L, o = .returned v ∧ Q_6 Z a1 h0 n0 v U'.heap L ∧ FrameEnd U o U' L ({ frames := 1, cells := 0, slots := 0, locals := 12 } : Room).cells ({ frames := 1, cells := 0, slots := 0, locals := 12 } : Room).slots) := by
  refine MetFree.of_bodySF (plainFor_of_name pn_java_lang_Number) hisR ?_
  intro p e s m args below meth c s₁ Bd hml0 hP hK
  obtain ⟨rfl, hZ, hh⟩ := hP
  have hx := Bd.exec
  have hby := Bd.bytes
  have hml : c.maxLocals = 1 := hml0
  have hown : s.vm.findClass "java/lang/Number" = some m.cls := findClass_of_methodNamed Bd.named
  have hnm := (name_of_methodNamed Bd.named Bd.method).1
  have X0 : Stand p l e ({ frames := 1, cells := 0, slots := 0, locals := 12 } : Room) s m #[(.ref a1)] below meth c s₁ [] 0 0 := Stand.of_body Bd
  have e0 : s₁.heap = h0 := by rw [← hh, Bd.state]; rfl
  have N0 := Fr.nil n0
  have pw0 : ∀ t, Steps p.tables e below (s₁.setTop (mkF m 0 #[.val (.ref a1)] [])) t → Steps p.tables e below (s₁.setTop (entryFrame m #[(.ref a1)] 1)) t := fun t k => castTop (ef_6 m a1) k
  have K0 : Keep h0 h0 [] := Keep.refl h0 []
  obtain ⟨T18, X18, e18, st18⟩ := initO X0 hx hZ hown (hw _ (List.mem_of_getElem? (i := 36) rfl)) (hw _ (List.mem_of_getElem? (i := 7) rfl)) (hw _ (List.mem_of_getElem? (i := 8) rfl)) e0 (g := (mkF m 1 #[.val (.ref a1)] [(.ref a1)])) rfl (by rw [hml]; rfl) rfl (hb hby d6_1) (by decide) (W := 0) (by show 2 * 0 + _ ≤ _; exact Nat.le_of_eq rfl) (by decide)
  obtain ⟨fs, hr, hrun, hended, hW, hsame⟩ := X18.leave (v := none) (fun _ => rfl)
  refine ⟨_, _, pw0 _ ?_, hrun, hended, _, _, rfl, ?_, ⟨_, rfl⟩, hW, hsame.mono (by decide) (by decide)⟩
  · skip
    refine XS.aloadN X0.here hx rfl (hb hby d6_0) rfl rfl ?_
    show Steps p.tables e below (s₁.setTop (mkF m 1 #[.val (.ref a1)] [(.ref a1)])) _
    refine st18 _ ?_
    show Steps p.tables e below (T18.setTop (mkF m 4 #[.val (.ref a1)] [])) _
    exact X18.returnOut hx Bd.returns (hb hby d6_4) hr
  · show Q_6 Z a1 h0 n0 _ T18.heap _
    rw [e18]
    exact ⟨rfl, N0, rfl⟩
theorem d5_0 : decode jdk_33_method_23_code 0 = .ok (.aload_n 0, 1) := by decide +kernel
theorem d5_1 : decode jdk_33_method_23_code 1 = .ok (.invokespecial 202, 3) := by decide +kernel
theorem d5_4 : decode jdk_33_method_23_code 4 = .ok (.aload_n 0, 1) := by decide +kernel
theorem d5_5 : decode jdk_33_method_23_code 5 = .ok (.iload_n 1, 1) := by decide +kernel
theorem d5_6 : decode jdk_33_method_23_code 6 = .ok (.putfield 205, 3) := by decide +kernel
theorem d5_9 : decode jdk_33_method_23_code 9 = .ok (.return_, 1) := by decide +kernel
theorem ef_5 (m : MethodId) (x0 : Addr) (x1 : Int32) : entryFrame m #[(.ref x0), (.int x1)] 2 = mkF m 0 #[.val (.ref x0), .val (.int x1)] [] := by first | (simp [entryFrame, mkF, argsToLocals, Value.category]; done) | rfl
theorem pn_java_lang_Integer : plainName "java/lang/Integer" = true := by first | (simp [plainName, overriddenIn]; done) | decide +kernel
def Q_5 (Z : State) (a1 : Addr) (p2 : Int32) (h0 : Heap) (n0 : Nat) (v : Option Value) (h : Heap) (L : List Loc) : Prop := v = none ∧ Fr n0 L ∧ Keep h0 h [a1] ∧ Exa Z h a1 "java/lang/Integer"
set_option maxRecDepth 65536 in
set_option maxHeartbeats 40000000 in
theorem rm_5 (l : Launch) (Z : State) (a0 : Array Value) (hw : ∀ d ∈ tables_1, d.before a0 Z = true) (ws : List Jvm.Cond) (a1 : Addr) (p2 : Int32) (h0 : Heap) (n0 : Nat) (Z0 : n0 ≤ h0.size) (E_a1 : Exa Z h0 a1 "java/lang/Integer") (F_v : Fld Z h0 a1 "java/lang/Integer" "value" "I" (.int (0 : Int32))) (g_a1 : n0 ≤ a1) :
    MetFree l (⟨"java/lang/Integer", "<init>", "(I)V"⟩ : MethodName) (head1 (Jvm.Cond.code (⟨"java/lang/Integer", "<init>", "(I)V"⟩ : MethodName) jdk_33_method_23_code 2 none :: ws) ({ frames := 2, cells := 0, slots := 0, locals := 24 } : Room)) (fun a U => a = #[(.ref a1), (.int p2)] ∧ Z.Warmed39 U.vm ∧ U.heap = h0) (fun _ _ _ _ _ => True) (fun _ U o U' => ∃ v L, o = .returned v ∧ Q_5 Z a1 p2 h0 n0 v U'.heap L ∧ FrameEnd U o U' L ({ frames := 2, cells := 0, slots := 0, locals := 24 } : Room).cells ({ frames := 2, cells := 0, slots := 0, locals := 24 } : Room).slots) := by
  refine MetFree.of_bodySF (plainFor_of_name pn_java_lang_Integer) hisR ?_
  intro p e s m args below meth c s₁ Bd hml0 hP hK
  obtain ⟨rfl, hZ, hh⟩ := hP
  have hx := Bd.exec
  have hby := Bd.bytes
  have hml : c.maxLocals = 2 := hml0
  have hown : s.vm.findClass "java/lang/Integer" = some m.cls := findClass_of_methodNamed Bd.named
  have hnm := (name_of_methodNamed Bd.named Bd.method).1
  have X0 : Stand p l e ({ frames := 2, cells := 0, slots := 0, locals := 24 } : Room) s m #[(.ref a1), (.int p2)] below meth c s₁ [] 0 0 := Stand.of_body Bd
  have e0 : s₁.heap = h0 := by rw [← hh, Bd.state]; rfl
  have N0 := Fr.nil n0
  have pw0 : ∀ t, Steps p.tables e below (s₁.setTop (mkF m 0 #[.val (.ref a1), .val (.int p2)] [])) t → Steps p.tables e below (s₁.setTop (entryFrame m #[(.ref a1), (.int p2)] 2)) t := fun t k => castTop (ef_5 m a1 p2) k
  have K0 : Keep h0 h0 [a1] := Keep.refl h0 [a1]
  obtain ⟨_, _, ⟨T19, L19, k19, n19⟩, -, X19, ⟨Lc19, hQ19, l19, y19, z19⟩, st19⟩ := X0.specialBack hx (y := (⟨"java/lang/Number", "<init>", "()V"⟩ : MethodName)) rfl hown (mvT hZ (hw _ (List.mem_of_getElem? (i := 30) rfl))) (mvT hZ (hw _ (List.mem_of_getElem? (i := 31) rfl))) (mvT hZ (hw _ (List.mem_of_getElem? (i := 35) rfl))) (by decide) (backOf (W := 0) (rm_6 l Z a0 hw [] a1 h0 n0 Z0 ) hZ (hw _ (List.mem_of_getElem? (i := 35) rfl)) (hw _ (List.mem_of_getElem? (i := 34) rfl)) (by decide) (by decide)) (g := (mkF m 1 #[.val (.ref a1), .val (.int p2)] [(.ref a1)])) rfl (by rw [hml]; rfl) (Steps.refl _) (a := a1) (argsL := []) (rest := []) (lenOf pd___V rfl) rfl (by show 2 * 0 + _ ≤ _; exact Nat.le_of_eq rfl) (hb hby d5_1) (fun _ _ => ⟨rfl, e0, (by decide : 0 + 0 ≤ _), (by decide : 0 + 0 ≤ _)⟩)
  dsimp only [Pt.U, Pt.locs, Pt.cells, Pt.slots] at X19 l19 y19 z19 st19 hQ19
  subst l19 y19 z19
  obtain ⟨rfl, N19q, e19q⟩ := hQ19
  have N19 := Fr.app N0 N19q
  obtain ⟨T20, h20, X20, e20, W20, st20⟩ := putF X19 hx hZ hown (host := "") (Or.inl (hw _ (List.mem_of_getElem? (i := 37) rfl))) Via.refl e19q F_v E_a1 (Or.inr ⟨(hw _ (List.mem_of_getElem? (i := 38) rfl)), rfl, hnm⟩) (hw _ (List.mem_of_getElem? (i := 25) rfl)) (ty := .int) (by decide) rfl rfl (g := (mkF m 6 #[.val (.ref a1), .val (.int p2)] [(.int p2), (.ref a1)])) rfl rfl (hb hby d5_6)
  have Fw20 := F_v.same W20
  have K20 : Keep h0 h20 [a1] := K0.wr W20 (Or.inl (List.mem_of_getElem? (i := 0) rfl))
  have N20 := Fr.snoc X20 N19 g_a1
  have Z20 : n0 ≤ h20.size := (Nat.le_trans Z0 (Nat.le_of_eq (Wr.size W20).symm))
  obtain ⟨fs, hr, hrun, hended, hW, hsame⟩ := X20.leave (v := none) (fun _ => rfl)
  refine ⟨_, _, pw0 _ ?_, hrun, hended, _, _, rfl, ?_, ⟨_, rfl⟩, hW, hsame.mono (by decide) (by decide)⟩
  · skip
    refine XS.aloadN X0.here hx rfl (hb hby d5_0) rfl rfl ?_
    show Steps p.tables e below (s₁.setTop (mkF m 1 #[.val (.ref a1), .val (.int p2)] [(.ref a1)])) _
    refine st19.trans ?_
    show Steps p.tables e below (T19.setTop (mkF m 4 #[.val (.ref a1), .val (.int p2)] [])) _
    refine XS.aloadN X19.here hx rfl (hb hby d5_4) rfl rfl ?_
    show Steps p.tables e below (T19.setTop (mkF m 5 #[.val (.ref a1), .val (.int p2)] [(.ref a1)])) _
    refine XS.iloadN X19.here hx rfl (hb hby d5_5) rfl ?_
    show Steps p.tables e below (T19.setTop (mkF m 6 #[.val (.ref a1), .val (.int p2)] [(.int p2), (.ref a1)])) _
    refine st20 _ ?_
    show Steps p.tables e below (T20.setTop (mkF m 9 #[.val (.ref a1), .val (.int p2)] [])) _
    exact X20.returnOut hx Bd.returns (hb hby d5_9) hr
  · show Q_5 Z a1 p2 h0 n0 _ T20.heap _
    rw [e20]
    exact ⟨rfl, N20, K20, (E_a1.wr W20)⟩
theorem own_idx {cl : Cell} {p : Int32} (hs : cl.slots.size = 256) (h1 : ¬ (p < (-128 : Int32))) (h2 : ¬ ((127 : Int32) < p)) : ¬ ((p + (128 : Int32)) < 0 ∨ cl.slots.size ≤ (p + (128 : Int32)).toNatClampNeg) := by
  rw [Int32.lt_iff_toInt_lt] at h1 h2
  have k1 : (-128 : Int32).toInt = -128 := rfl
  have k2 : (127 : Int32).toInt = 127 := rfl
  have k3 : (128 : Int32).toInt = 128 := rfl
  have k4 : (0 : Int32).toInt = 0 := rfl
  have a1 := c_iadd p 128
  have a2 := rng32 (p + 128)
  have a3 := rng32 p
  rw [Int32.lt_iff_toInt_lt, hs]
  simp only [Int32.toNatClampNeg]
  omega
theorem d4_0 : decode jdk_33_method_22_code 0 = .ok (.iload_n 0, 1) := by decide +kernel
theorem d4_1 : decode jdk_33_method_22_code 1 = .ok (.bipush (-128), 2) := by decide +kernel
theorem d4_3 : decode jdk_33_method_22_code 3 = .ok (.if_icmp .lt 20, 3) := by decide +kernel
theorem d4_6 : decode jdk_33_method_22_code 6 = .ok (.iload_n 0, 1) := by decide +kernel
theorem d4_7 : decode jdk_33_method_22_code 7 = .ok (.getstatic 191, 3) := by decide +kernel
theorem d4_10 : decode jdk_33_method_22_code 10 = .ok (.if_icmp .gt 13, 3) := by decide +kernel
theorem d4_13 : decode jdk_33_method_22_code 13 = .ok (.getstatic 195, 3) := by decide +kernel
theorem d4_16 : decode jdk_33_method_22_code 16 = .ok (.iload_n 0, 1) := by decide +kernel
theorem d4_17 : decode jdk_33_method_22_code 17 = .ok (.sipush 128, 3) := by decide +kernel
theorem d4_20 : decode jdk_33_method_22_code 20 = .ok (.iadd, 1) := by decide +kernel
theorem d4_21 : decode jdk_33_method_22_code 21 = .ok (.aaload, 1) := by decide +kernel
theorem d4_22 : decode jdk_33_method_22_code 22 = .ok (.areturn, 1) := by decide +kernel
theorem d4_23 : decode jdk_33_method_22_code 23 = .ok (.new 1, 3) := by decide +kernel
theorem d4_26 : decode jdk_33_method_22_code 26 = .ok (.dup, 1) := by decide +kernel
theorem d4_27 : decode jdk_33_method_22_code 27 = .ok (.iload_n 0, 1) := by decide +kernel
theorem d4_28 : decode jdk_33_method_22_code 28 = .ok (.invokespecial 199, 3) := by decide +kernel
theorem d4_31 : decode jdk_33_method_22_code 31 = .ok (.areturn, 1) := by decide +kernel
theorem ef_4 (m : MethodId) (x0 : Int32) : entryFrame m #[(.int x0)] 1 = mkF m 0 #[.val (.int x0)] [] := by first | (simp [entryFrame, mkF, argsToLocals, Value.category]; done) | rfl
def Q_4 (Z : State) (p1 : Int32) (cl : Cell) (ca : Addr) (h0 : Heap) (n0 : Nat) (v : Option Value) (h : Heap) (L : List Loc) : Prop := ∃ b : Addr, v = some (.ref b) ∧ Fr n0 L ∧ Keep h0 h [] ∧ Exa Z h b "java/lang/Integer"
set_option maxRecDepth 65536 in
set_option maxHeartbeats 40000000 in
theorem rm_4 (l : Launch) (Z : State) (a0 : Array Value) (hw : ∀ d ∈ tables_1, d.before a0 Z = true) (ws : List Jvm.Cond) (p1 : Int32) (cl : Cell) (ca : Addr) (h0 : Heap) (n0 : Nat) (Z0 : n0 ≤ h0.size) (S_h : Sta Z h0 "java/lang/Integer$IntegerCache" "high" "I" (.int (127 : Int32))) (S_c : Sta Z h0 "java/lang/Integer$IntegerCache" "cache" "[Ljava/lang/Integer;" (.ref ca)) (Ar_c : Arr Z h0 ca cl (.object "java/lang/Integer")) (hsz : cl.slots.size = 256) (hcache : ∀ j : Int32, ¬ (j < 0 ∨ cl.slots.size ≤ j.toNatClampNeg) → ∃ b, cl.slots[j.toNatClampNeg]? = some (.ref b) ∧ Exa Z h0 b "java/lang/Integer") :
    MetFree l (⟨"java/lang/Integer", "valueOf", "(I)Ljava/lang/Integer;"⟩ : MethodName) (head1 (Jvm.Cond.code (⟨"java/lang/Integer", "valueOf", "(I)Ljava/lang/Integer;"⟩ : MethodName) jdk_33_method_22_code 1 (some (.object "java/lang/Integer")) :: ws) ({ frames := 3, cells := 1, slots := 1, locals := 38 } : Room)) (fun a U => a = #[(.int p1)] ∧ Z.Warmed39 U.vm ∧ U.heap = h0) (fun _ _ _ _ _ => True) (fun _ U o U' => ∃ v L, o = .returned v ∧ Q_4 Z p1 cl ca h0 n0 v U'.heap L ∧ FrameEnd U o U' L ({ frames := 3, cells := 1, slots := 1, locals := 38 } : Room).cells ({ frames := 3, cells := 1, slots := 1, locals := 38 } : Room).slots) := by
  refine MetFree.of_bodySF (plainFor_of_name pn_java_lang_Integer) hisR ?_
  intro p e s m args below meth c s₁ Bd hml0 hP hK
  obtain ⟨rfl, hZ, hh⟩ := hP
  have hx := Bd.exec
  have hby := Bd.bytes
  have hml : c.maxLocals = 1 := hml0
  have hown : s.vm.findClass "java/lang/Integer" = some m.cls := findClass_of_methodNamed Bd.named
  have hnm := (name_of_methodNamed Bd.named Bd.method).1
  have X0 : Stand p l e ({ frames := 3, cells := 1, slots := 1, locals := 38 } : Room) s m #[(.int p1)] below meth c s₁ [] 0 0 := Stand.of_body Bd
  have e0 : s₁.heap = h0 := by rw [← hh, Bd.state]; rfl
  have N0 := Fr.nil n0
  have pw0 : ∀ t, Steps p.tables e below (s₁.setTop (mkF m 0 #[.val (.int p1)] [])) t → Steps p.tables e below (s₁.setTop (entryFrame m #[(.int p1)] 1)) t := fun t k => castTop (ef_4 m p1) k
  have K0 : Keep h0 h0 [] := Keep.refl h0 []
  have pw21 : ∀ t, Steps p.tables e below (s₁.setTop (mkF m 3 #[.val (.int p1)] [(.int (-128 : Int32)), (.int p1)])) t → Steps p.tables e below (s₁.setTop (entryFrame m #[(.int p1)] 1)) t := by
    intro t k
    refine pw0 t ?_
    refine XS.iloadN X0.here hx rfl (hb hby d4_0) rfl ?_
    show Steps p.tables e below (s₁.setTop (mkF m 1 #[.val (.int p1)] [(.int p1)])) _
    refine XS.bipush X0.here hx rfl (hb hby d4_1) ?_
    show Steps p.tables e below (s₁.setTop (mkF m 3 #[.val (.int p1)] [(.int (-128 : Int32)), (.int p1)])) _
    exact k
  by_cases hc22 : p1 < (-128 : Int32)
  · skip
    obtain ⟨T23, h23, X23, e23, E23, A23, D23, -, st23⟩ := newO X0 hx hZ hown (hw _ (List.mem_of_getElem? (i := 24) rfl)) (hw _ (List.mem_of_getElem? (i := 25) rfl)) (hw _ (List.mem_of_getElem? (i := 22) rfl)) e0 (g := (mkF m 23 #[.val (.int p1)] [])) rfl (hb hby d4_23) (by decide) (by decide)
    obtain ⟨b23, g23⟩ : ∃ z, z = h0.size := ⟨_, rfl⟩
    rw [← g23] at A23 D23 st23
    have g_b23 : n0 ≤ b23 := Nat.le_trans Z0 (Nat.le_of_eq g23.symm)
    have sz_b23 : h0.size ≤ b23 := Nat.le_trans K0.1 (Nat.le_of_eq g23.symm)
    have F_value_b23 : Fld Z h23 b23 "java/lang/Integer" "value" "I" (.int (0 : Int32)) := D23 (Or.inr (hw _ (List.mem_of_getElem? (i := 38) rfl))) (ty := .int) (by decide)
    have K23 : Keep h0 h23 [] := K0.ext E23
    have Z23 : n0 ≤ h23.size := (Nat.le_trans Z0 E23.1)
    obtain ⟨_, _, ⟨T24, L24, k24, n24⟩, -, X24, ⟨Lc24, hQ24, l24, y24, z24⟩, st24⟩ := X23.specialBack hx (y := (⟨"java/lang/Integer", "<init>", "(I)V"⟩ : MethodName)) rfl hown (mvT hZ (hw _ (List.mem_of_getElem? (i := 26) rfl))) (mvT hZ (hw _ (List.mem_of_getElem? (i := 27) rfl))) (mvT hZ (hw _ (List.mem_of_getElem? (i := 29) rfl))) (by decide) (backOf (W := 1) (rm_5 l Z a0 hw [] b23 p1 h23 n0 Z23 A23 F_value_b23 g_b23) hZ (hw _ (List.mem_of_getElem? (i := 29) rfl)) (hw _ (List.mem_of_getElem? (i := 22) rfl)) (by decide) (by decide)) (g := (mkF m 28 #[.val (.int p1)] [(.int p1), (.ref b23), (.ref b23)])) rfl (by rw [hml]; rfl) (Steps.refl _) (a := b23) (argsL := [(.int p1)]) (rest := [(.ref b23)]) (lenOf pd__I_V rfl) rfl (by show 2 * 0 + _ ≤ _; exact Nat.le_of_eq rfl) (hb hby d4_28) (fun _ _ => ⟨rfl, e23, (by decide : 1 + 0 ≤ _), (by decide : 1 + 0 ≤ _)⟩)
    dsimp only [Pt.U, Pt.locs, Pt.cells, Pt.slots] at X24 l24 y24 z24 st24 hQ24
    subst l24 y24 z24
    obtain ⟨rfl, N24q, K24q, E24q⟩ := hQ24
    have N24 := Fr.app N0 N24q
    have S24_0 := own_staKeep (Sta.ext E23 S_h) K24q (nsS (A23.nostat) ns0)
    have S24_1 := own_staKeep (Sta.ext E23 S_c) K24q (nsS (A23.nostat) ns0)
    have K24 : Keep h0 T24.heap [] := K23.trans K24q (allS (P := fun x => x ∈ [] ∨ h0.size ≤ x) (Or.inr sz_b23) all0)
    have Z24 : n0 ≤ T24.heap.size := (Nat.le_trans Z23 K24q.1)
    obtain ⟨fs, hr, hrun, hended, hW, hsame⟩ := X24.leave (v := some (.ref b23)) (fun h => by rw [Bd.returns] at h; cases h)
    refine ⟨_, _, pw21 _ ?_, hrun, hended, _, _, rfl, ?_, ⟨_, rfl⟩, hW, hsame.mono (by decide) (by decide)⟩
    · skip
      refine XS.icmpYes X0.here hx rfl (pc0 := 3) (pc' := 23) rfl (hb hby d4_3) rfl (tlt hc22).1 (by decide) (by decide) ?_
      show Steps p.tables e below (s₁.setTop (mkF m 23 #[.val (.int p1)] [])) _
      refine st23 _ ?_
      show Steps p.tables e below (T23.setTop (mkF m 26 #[.val (.int p1)] [(.ref b23)])) _
      refine XS.dup X23.here hx rfl (hb hby d4_26) rfl rfl ?_
      show Steps p.tables e below (T23.setTop (mkF m 27 #[.val (.int p1)] [(.ref b23), (.ref b23)])) _
      refine XS.iloadN X23.here hx rfl (hb hby d4_27) rfl ?_
      show Steps p.tables e below (T23.setTop (mkF m 28 #[.val (.int p1)] [(.int p1), (.ref b23), (.ref b23)])) _
      refine st24.trans ?_
      show Steps p.tables e below (T24.setTop (mkF m 31 #[.val (.int p1)] [(.ref b23)])) _
      exact retOut X24 hx Bd.returns rfl (Or.inr (Or.inr (Or.inr (Or.inr ⟨rfl, rfl, rfl⟩)))) (hb hby d4_31) hr
    · show Q_4 Z p1 cl ca h0 n0 _ T24.heap _
      exact ⟨b23, rfl, N24, K24, E24q⟩
  · skip
    obtain ⟨T25, X25, e25, st25⟩ := getS2 X0 hx hZ hown (host := "") (Or.inl (hw _ (List.mem_of_getElem? (i := 42) rfl))) Via.refl e0 S_h (g := (mkF m 7 #[.val (.int p1)] [(.int p1)])) rfl (hb hby d4_7)
    have pw26 : ∀ t, Steps p.tables e below (T25.setTop (mkF m 10 #[.val (.int p1)] [(.int (127 : Int32)), (.int p1)])) t → Steps p.tables e below (s₁.setTop (entryFrame m #[(.int p1)] 1)) t := by
      intro t k
      refine pw21 t ?_
      refine XS.icmpNo X0.here hx rfl (hb hby d4_3) rfl (flt hc22).1 ?_
      show Steps p.tables e below (s₁.setTop (mkF m 6 #[.val (.int p1)] [])) _
      refine XS.iloadN X0.here hx rfl (hb hby d4_6) rfl ?_
      show Steps p.tables e below (s₁.setTop (mkF m 7 #[.val (.int p1)] [(.int p1)])) _
      refine st25 _ ?_
      show Steps p.tables e below (T25.setTop (mkF m 10 #[.val (.int p1)] [(.int (127 : Int32)), (.int p1)])) _
      exact k
    by_cases hc27 : (127 : Int32) < p1
    · skip
      obtain ⟨T28, h28, X28, e28, E28, A28, D28, -, st28⟩ := newO X25 hx hZ hown (hw _ (List.mem_of_getElem? (i := 24) rfl)) (hw _ (List.mem_of_getElem? (i := 25) rfl)) (hw _ (List.mem_of_getElem? (i := 22) rfl)) e25 (g := (mkF m 23 #[.val (.int p1)] [])) rfl (hb hby d4_23) (by decide) (by decide)
      obtain ⟨b28, g28⟩ : ∃ z, z = h0.size := ⟨_, rfl⟩
      rw [← g28] at A28 D28 st28
      have g_b28 : n0 ≤ b28 := Nat.le_trans Z0 (Nat.le_of_eq g28.symm)
      have sz_b28 : h0.size ≤ b28 := Nat.le_trans K0.1 (Nat.le_of_eq g28.symm)
      have F_value_b28 : Fld Z h28 b28 "java/lang/Integer" "value" "I" (.int (0 : Int32)) := D28 (Or.inr (hw _ (List.mem_of_getElem? (i := 38) rfl))) (ty := .int) (by decide)
      have K28 : Keep h0 h28 [] := K0.ext E28
      have Z28 : n0 ≤ h28.size := (Nat.le_trans Z0 E28.1)
      obtain ⟨_, _, ⟨T29, L29, k29, n29⟩, -, X29, ⟨Lc29, hQ29, l29, y29, z29⟩, st29⟩ := X28.specialBack hx (y := (⟨"java/lang/Integer", "<init>", "(I)V"⟩ : MethodName)) rfl hown (mvT hZ (hw _ (List.mem_of_getElem? (i := 26) rfl))) (mvT hZ (hw _ (List.mem_of_getElem? (i := 27) rfl))) (mvT hZ (hw _ (List.mem_of_getElem? (i := 29) rfl))) (by decide) (backOf (W := 1) (rm_5 l Z a0 hw [] b28 p1 h28 n0 Z28 A28 F_value_b28 g_b28) hZ (hw _ (List.mem_of_getElem? (i := 29) rfl)) (hw _ (List.mem_of_getElem? (i := 22) rfl)) (by decide) (by decide)) (g := (mkF m 28 #[.val (.int p1)] [(.int p1), (.ref b28), (.ref b28)])) rfl (by rw [hml]; rfl) (Steps.refl _) (a := b28) (argsL := [(.int p1)]) (rest := [(.ref b28)]) (lenOf pd__I_V rfl) rfl (by show 2 * 0 + _ ≤ _; exact Nat.le_of_eq rfl) (hb hby d4_28) (fun _ _ => ⟨rfl, e28, (by decide : 1 + 0 ≤ _), (by decide : 1 + 0 ≤ _)⟩)
      dsimp only [Pt.U, Pt.locs, Pt.cells, Pt.slots] at X29 l29 y29 z29 st29 hQ29
      subst l29 y29 z29
      obtain ⟨rfl, N29q, K29q, E29q⟩ := hQ29
      have N29 := Fr.app N0 N29q
      have S29_0 := own_staKeep (Sta.ext E28 S_h) K29q (nsS (A28.nostat) ns0)
      have S29_1 := own_staKeep (Sta.ext E28 S_c) K29q (nsS (A28.nostat) ns0)
      have K29 : Keep h0 T29.heap [] := K28.trans K29q (allS (P := fun x => x ∈ [] ∨ h0.size ≤ x) (Or.inr sz_b28) all0)
      have Z29 : n0 ≤ T29.heap.size := (Nat.le_trans Z28 K29q.1)
      obtain ⟨fs, hr, hrun, hended, hW, hsame⟩ := X29.leave (v := some (.ref b28)) (fun h => by rw [Bd.returns] at h; cases h)
      refine ⟨_, _, pw26 _ ?_, hrun, hended, _, _, rfl, ?_, ⟨_, rfl⟩, hW, hsame.mono (by decide) (by decide)⟩
      · skip
        refine XS.icmpYes X25.here hx rfl (pc0 := 10) (pc' := 23) rfl (hb hby d4_10) rfl (tlt hc27).2.2.1 (by decide) (by decide) ?_
        show Steps p.tables e below (T25.setTop (mkF m 23 #[.val (.int p1)] [])) _
        refine st28 _ ?_
        show Steps p.tables e below (T28.setTop (mkF m 26 #[.val (.int p1)] [(.ref b28)])) _
        refine XS.dup X28.here hx rfl (hb hby d4_26) rfl rfl ?_
        show Steps p.tables e below (T28.setTop (mkF m 27 #[.val (.int p1)] [(.ref b28), (.ref b28)])) _
        refine XS.iloadN X28.here hx rfl (hb hby d4_27) rfl ?_
        show Steps p.tables e below (T28.setTop (mkF m 28 #[.val (.int p1)] [(.int p1), (.ref b28), (.ref b28)])) _
        refine st29.trans ?_
        show Steps p.tables e below (T29.setTop (mkF m 31 #[.val (.int p1)] [(.ref b28)])) _
        exact retOut X29 hx Bd.returns rfl (Or.inr (Or.inr (Or.inr (Or.inr ⟨rfl, rfl, rfl⟩)))) (hb hby d4_31) hr
      · show Q_4 Z p1 cl ca h0 n0 _ T29.heap _
        exact ⟨b28, rfl, N29, K29, E29q⟩
    · skip
      obtain ⟨T30, X30, e30, st30⟩ := getS2 X25 hx hZ hown (host := "") (Or.inl (hw _ (List.mem_of_getElem? (i := 44) rfl))) Via.refl e25 S_c (g := (mkF m 13 #[.val (.int p1)] [])) rfl (hb hby d4_13)
      have hin : ¬ ((p1 + (128 : Int32)) < 0 ∨ cl.slots.size ≤ ((p1 + (128 : Int32))).toNatClampNeg) := own_idx hsz hc22 hc27
      obtain ⟨bx, hat, E_bx⟩ := hcache (p1 + (128 : Int32)) hin
      obtain ⟨fs, hr, hrun, hended, hW, hsame⟩ := X30.leave (v := some (.ref bx)) (fun h => by rw [Bd.returns] at h; cases h)
      refine ⟨_, _, pw26 _ ?_, hrun, hended, _, _, rfl, ?_, ⟨_, rfl⟩, hW, hsame.mono (by decide) (by decide)⟩
      · skip
        refine XS.icmpNo X25.here hx rfl (hb hby d4_10) rfl (flt hc27).2.2.1 ?_
        show Steps p.tables e below (T25.setTop (mkF m 13 #[.val (.int p1)] [])) _
        refine st30 _ ?_
        show Steps p.tables e below (T30.setTop (mkF m 16 #[.val (.int p1)] [(.ref ca)])) _
        refine XS.iloadN X30.here hx rfl (hb hby d4_16) rfl ?_
        show Steps p.tables e below (T30.setTop (mkF m 17 #[.val (.int p1)] [(.int p1), (.ref ca)])) _
        refine XS.sipush X30.here hx rfl (hb hby d4_17) ?_
        show Steps p.tables e below (T30.setTop (mkF m 20 #[.val (.int p1)] [(.int (128 : Int32)), (.int p1), (.ref ca)])) _
        refine XS.iadd X30.here hx rfl (hb hby d4_20) rfl ?_
        show Steps p.tables e below (T30.setTop (mkF m 21 #[.val (.int p1)] [(.int (p1 + (128 : Int32))), (.ref ca)])) _
        refine X30.aaload hx (j := (p1 + (128 : Int32))) (v := (.ref bx)) (by rw [e30]; exact Ar_c.1) (State.isArrayOf_alike hZ.alike Ar_c.2.1) rfl Ar_c.2.2 hin hat (g := (mkF m 21 #[.val (.int p1)] [(.int (p1 + (128 : Int32))), (.ref ca)])) rfl rfl (hb hby d4_21) _ ?_
        show Steps p.tables e below (T30.setTop (mkF m 22 #[.val (.int p1)] [(.ref bx)])) _
        exact retOut X30 hx Bd.returns rfl (Or.inr (Or.inr (Or.inr (Or.inr ⟨rfl, rfl, rfl⟩)))) (hb hby d4_22) hr
      · show Q_4 Z p1 cl ca h0 n0 _ T30.heap _
        rw [e30]
        exact ⟨bx, rfl, N0, K0, E_bx⟩
theorem own_arrKeep {Z : State} {h h' : Heap} {a : Addr} {c : Cell} {ty : FieldType} (A : Arr Z h a c ty) (K : Keep h h' []) : Arr Z h' a c ty := ⟨K.2.1 _ _ A.1 nin0, A.2⟩
theorem own_len {args : Array Value} {s : State} {t : Term} {a : Addr} {cl : Cell} {ty : FieldType} {k : Int32} (A : Arr s s.heap a cl ty) (ev : t.eval args s none [] s = some (.ref a)) (h : (Jvm.Cond.eq (.length t) (.int k)).value args s none s [] = some true) : cl.slots.size < 2 ^ 31 ∧ cl.slots.size.toInt32 = k := by
  have e := eqv_i (F := .int k) (y := k) rfl h
  have ha := A.fin (Vm.Alike.refl _)
  by_cases q : cl.slots.size < 2 ^ 31
  · refine ⟨q, ?_⟩
    rw [len_f ev ha q] at e
    injection e with e
    injection e
  · exfalso
    have q' : ¬ cl.slots.size < 2147483648 := q
    simp [Term.eval, ev, ha, q'] at e
theorem ef_0 (m : MethodId) (x0 : Int32) (x1 : Int32) (x2 : Int32) : entryFrame m #[(.int x0), (.int x1), (.int x2)] maxLocals = mkF m 0 #[.val (.int x0), .val (.int x1), .val (.int x2), .unset, .unset, .unset, .unset, .unset, .unset, .unset] [] := by first | (simp [entryFrame, mkF, argsToLocals, Value.category, maxLocals]; done) | rfl
theorem pn_com_example_gated_chorus_gatedchorus_gate_StandingEqualsPinLaw : plainName "com/example/gated_chorus/gatedchorus/gate/StandingEqualsPinLaw" = true := by first | (simp [plainName, overriddenIn]; done) | decide +kernel
def Q_0 (Z : State) (x0 : Int32) (x1 : Int32) (x2 : Int32) (ea eb rb : Int32) (cl : Cell) (ca : Addr) (h0 : Heap) (n0 : Nat) (v : Option Value) (h : Heap) (L : List Loc) : Prop := v = some (.int 1) ∧ Fr n0 L
set_option maxRecDepth 65536 in
set_option maxHeartbeats 40000000 in
theorem rm_0 (l : Launch) (Z : State) (a0 : Array Value) (hw : ∀ d ∈ tables_1, d.before a0 Z = true) (ws : List Jvm.Cond) (x0 : Int32) (x1 : Int32) (x2 : Int32) (ea eb rb : Int32) (cl : Cell) (ca : Addr) (h0 : Heap) (n0 : Nat) (Z0 : n0 ≤ h0.size) (S_h : Sta Z h0 "java/lang/Integer$IntegerCache" "high" "I" (.int (127 : Int32))) (S_c : Sta Z h0 "java/lang/Integer$IntegerCache" "cache" "[Ljava/lang/Integer;" (.ref ca)) (Ar_c : Arr Z h0 ca cl (.object "java/lang/Integer")) (hsz : cl.slots.size = 256) (hcache : ∀ j : Int32, ¬ (j < 0 ∨ cl.slots.size ≤ j.toNatClampNeg) → ∃ b, cl.slots[j.toNatClampNeg]? = some (.ref b) ∧ Exa Z h0 b "java/lang/Integer") (sea : own_bit x0 1 = ea) (seb : own_bit x0 2 = eb) (srb : own_rb x1 x2 = rb) (hea : ea = (0 : Int32) ∨ ea = (1 : Int32)) (heb : eb = (0 : Int32) ∨ eb = (1 : Int32)) :
    MetFree l x (head1 (Jvm.Cond.code x code maxLocals ret :: ws) room_1) (fun a U => a = #[(.int x0), (.int x1), (.int x2)] ∧ Z.Warmed39 U.vm ∧ U.heap = h0) (fun _ _ _ _ _ => True) (fun _ U o U' => ∃ v L, o = .returned v ∧ Q_0 Z x0 x1 x2 ea eb rb cl ca h0 n0 v U'.heap L ∧ FrameEnd U o U' L room_1.cells room_1.slots) := by
  refine MetFree.of_bodySF (plainFor_of_name pn_com_example_gated_chorus_gatedchorus_gate_StandingEqualsPinLaw) hisR ?_
  intro p e s m args below meth c s₁ Bd hml0 hP hK
  obtain ⟨rfl, hZ, hh⟩ := hP
  have hx := Bd.exec
  have hby := Bd.bytes
  have hml : c.maxLocals = 10 := hml0
  have hown : s.vm.findClass "com/example/gated_chorus/gatedchorus/gate/StandingEqualsPinLaw" = some m.cls := findClass_of_methodNamed Bd.named
  have hnm := (name_of_methodNamed Bd.named Bd.method).1
  have X0 : Stand p l e room_1 s m #[(.int x0), (.int x1), (.int x2)] below meth c s₁ [] 0 0 := Stand.of_body Bd
  have e0 : s₁.heap = h0 := by rw [← hh, Bd.state]; rfl
  have N0 := Fr.nil n0
  have pw0 : ∀ t, Steps p.tables e below (s₁.setTop (mkF m 0 #[.val (.int x0), .val (.int x1), .val (.int x2), .unset, .unset, .unset, .unset, .unset, .unset, .unset] [])) t → Steps p.tables e below (s₁.setTop (entryFrame m #[(.int x0), (.int x1), (.int x2)] maxLocals)) t := fun t k => castTop (ef_0 m x0 x1 x2) k
  have K0 : Keep h0 h0 [] := Keep.refl h0 []
  have pw32 : ∀ t, Steps p.tables e below (s₁.setTop (mkF m 3 #[.val (.int x0), .val (.int x1), .val (.int x2), .unset, .unset, .unset, .unset, .unset, .unset, .unset] [(.int (x0 &&& (1 : Int32)))])) t → Steps p.tables e below (s₁.setTop (entryFrame m #[(.int x0), (.int x1), (.int x2)] maxLocals)) t := by
    intro t k
    refine pw0 t ?_
    refine XS.iloadN X0.here hx rfl (hb hby at_0) rfl ?_
    show Steps p.tables e below (s₁.setTop (mkF m 1 #[.val (.int x0), .val (.int x1), .val (.int x2), .unset, .unset, .unset, .unset, .unset, .unset, .unset] [(.int x0)])) _
    refine XS.iconst X0.here hx rfl (hb hby at_1) ?_
    show Steps p.tables e below (s₁.setTop (mkF m 2 #[.val (.int x0), .val (.int x1), .val (.int x2), .unset, .unset, .unset, .unset, .unset, .unset, .unset] [(.int (1 : Int32)), (.int x0)])) _
    refine XS.iand X0.here hx rfl (hb hby at_2) rfl ?_
    show Steps p.tables e below (s₁.setTop (mkF m 3 #[.val (.int x0), .val (.int x1), .val (.int x2), .unset, .unset, .unset, .unset, .unset, .unset, .unset] [(.int (x0 &&& (1 : Int32)))])) _
    exact k
  have pw34 : ∀ t, Steps p.tables e below (s₁.setTop (mkF m 11 #[.val (.int x0), .val (.int x1), .val (.int x2), .unset, .unset, .unset, .unset, .unset, .unset, .unset] [(.int ea)])) t → Steps p.tables e below (s₁.setTop (entryFrame m #[(.int x0), (.int x1), (.int x2)] maxLocals)) t := by
    intro t k
    by_cases hc33 : (x0 &&& (1 : Int32)) = (0 : Int32)
    · have hv : (0 : Int32) = ea := (sea.symm.trans (if_pos hc33)).symm
      subst hv
      refine pw32 t ?_
      refine XS.ifYes X0.here hx rfl (pc0 := 3) (pc' := 10) rfl (hb hby at_3) rfl ((if0 _ _).trans (teq hc33).1) (by decide) (by decide) ?_
      show Steps p.tables e below (s₁.setTop (mkF m 10 #[.val (.int x0), .val (.int x1), .val (.int x2), .unset, .unset, .unset, .unset, .unset, .unset, .unset] [])) _
      refine XS.iconst X0.here hx rfl (hb hby at_10) ?_
      exact k
    · have hv : (1 : Int32) = ea := (sea.symm.trans (if_neg hc33)).symm
      subst hv
      refine pw32 t ?_
      refine XS.ifNo X0.here hx rfl (hb hby at_3) rfl ((if0 _ _).trans (feq hc33).1) ?_
      show Steps p.tables e below (s₁.setTop (mkF m 6 #[.val (.int x0), .val (.int x1), .val (.int x2), .unset, .unset, .unset, .unset, .unset, .unset, .unset] [])) _
      refine XS.iconst X0.here hx rfl (hb hby at_6) ?_
      show Steps p.tables e below (s₁.setTop (mkF m 7 #[.val (.int x0), .val (.int x1), .val (.int x2), .unset, .unset, .unset, .unset, .unset, .unset, .unset] [(.int (1 : Int32))])) _
      refine XS.goto X0.here hx rfl (pc0 := 7) (pc' := 11) rfl (hb hby at_7) (by decide) (by decide) ?_
      exact k
  have pw35 : ∀ t, Steps p.tables e below (s₁.setTop (mkF m 15 #[.val (.int x0), .val (.int x1), .val (.int x2), .val (.int ea), .unset, .unset, .unset, .unset, .unset, .unset] [(.int (x0 &&& (2 : Int32)))])) t → Steps p.tables e below (s₁.setTop (entryFrame m #[(.int x0), (.int x1), (.int x2)] maxLocals)) t := by
    intro t k
    refine pw34 t ?_
    refine XS.istoreN X0.here hx rfl (hb hby at_11) rfl (l' := #[.val (.int x0), .val (.int x1), .val (.int x2), .val (.int ea), .unset, .unset, .unset, .unset, .unset, .unset]) rfl ?_
    show Steps p.tables e below (s₁.setTop (mkF m 12 #[.val (.int x0), .val (.int x1), .val (.int x2), .val (.int ea), .unset, .unset, .unset, .unset, .unset, .unset] [])) _
    refine XS.iloadN X0.here hx rfl (hb hby at_12) rfl ?_
    show Steps p.tables e below (s₁.setTop (mkF m 13 #[.val (.int x0), .val (.int x1), .val (.int x2), .val (.int ea), .unset, .unset, .unset, .unset, .unset, .unset] [(.int x0)])) _
    refine XS.iconst X0.here hx rfl (hb hby at_13) ?_
    show Steps p.tables e below (s₁.setTop (mkF m 14 #[.val (.int x0), .val (.int x1), .val (.int x2), .val (.int ea), .unset, .unset, .unset, .unset, .unset, .unset] [(.int (2 : Int32)), (.int x0)])) _
    refine XS.iand X0.here hx rfl (hb hby at_14) rfl ?_
    show Steps p.tables e below (s₁.setTop (mkF m 15 #[.val (.int x0), .val (.int x1), .val (.int x2), .val (.int ea), .unset, .unset, .unset, .unset, .unset, .unset] [(.int (x0 &&& (2 : Int32)))])) _
    exact k
  have pw37 : ∀ t, Steps p.tables e below (s₁.setTop (mkF m 23 #[.val (.int x0), .val (.int x1), .val (.int x2), .val (.int ea), .unset, .unset, .unset, .unset, .unset, .unset] [(.int eb)])) t → Steps p.tables e below (s₁.setTop (entryFrame m #[(.int x0), (.int x1), (.int x2)] maxLocals)) t := by
    intro t k
    by_cases hc36 : (x0 &&& (2 : Int32)) = (0 : Int32)
    · have hv : (0 : Int32) = eb := (seb.symm.trans (if_pos hc36)).symm
      subst hv
      refine pw35 t ?_
      refine XS.ifYes X0.here hx rfl (pc0 := 15) (pc' := 22) rfl (hb hby at_15) rfl ((if0 _ _).trans (teq hc36).1) (by decide) (by decide) ?_
      show Steps p.tables e below (s₁.setTop (mkF m 22 #[.val (.int x0), .val (.int x1), .val (.int x2), .val (.int ea), .unset, .unset, .unset, .unset, .unset, .unset] [])) _
      refine XS.iconst X0.here hx rfl (hb hby at_22) ?_
      exact k
    · have hv : (1 : Int32) = eb := (seb.symm.trans (if_neg hc36)).symm
      subst hv
      refine pw35 t ?_
      refine XS.ifNo X0.here hx rfl (hb hby at_15) rfl ((if0 _ _).trans (feq hc36).1) ?_
      show Steps p.tables e below (s₁.setTop (mkF m 18 #[.val (.int x0), .val (.int x1), .val (.int x2), .val (.int ea), .unset, .unset, .unset, .unset, .unset, .unset] [])) _
      refine XS.iconst X0.here hx rfl (hb hby at_18) ?_
      show Steps p.tables e below (s₁.setTop (mkF m 19 #[.val (.int x0), .val (.int x1), .val (.int x2), .val (.int ea), .unset, .unset, .unset, .unset, .unset, .unset] [(.int (1 : Int32))])) _
      refine XS.goto X0.here hx rfl (pc0 := 19) (pc' := 23) rfl (hb hby at_19) (by decide) (by decide) ?_
      exact k
  have pw38 : ∀ t, Steps p.tables e below (s₁.setTop (mkF m 35 #[.val (.int x0), .val (.int x1), .val (.int x2), .val (.int ea), .val (.int eb), .val (.int (((x0.toUInt32 >>> ((2 : Int32) &&& 31).toUInt32).toInt32) &&& (3 : Int32))), .unset, .unset, .unset, .unset] [(.int (x2 &&& (1 : Int32)))])) t → Steps p.tables e below (s₁.setTop (entryFrame m #[(.int x0), (.int x1), (.int x2)] maxLocals)) t := by
    intro t k
    refine pw37 t ?_
    refine XS.istore X0.here hx rfl (hb hby at_23) rfl (l' := #[.val (.int x0), .val (.int x1), .val (.int x2), .val (.int ea), .val (.int eb), .unset, .unset, .unset, .unset, .unset]) rfl ?_
    show Steps p.tables e below (s₁.setTop (mkF m 25 #[.val (.int x0), .val (.int x1), .val (.int x2), .val (.int ea), .val (.int eb), .unset, .unset, .unset, .unset, .unset] [])) _
    refine XS.iloadN X0.here hx rfl (hb hby at_25) rfl ?_
    show Steps p.tables e below (s₁.setTop (mkF m 26 #[.val (.int x0), .val (.int x1), .val (.int x2), .val (.int ea), .val (.int eb), .unset, .unset, .unset, .unset, .unset] [(.int x0)])) _
    refine XS.iconst X0.here hx rfl (hb hby at_26) ?_
    show Steps p.tables e below (s₁.setTop (mkF m 27 #[.val (.int x0), .val (.int x1), .val (.int x2), .val (.int ea), .val (.int eb), .unset, .unset, .unset, .unset, .unset] [(.int (2 : Int32)), (.int x0)])) _
    refine XS.iushr X0.here hx rfl (hb hby at_27) rfl ?_
    show Steps p.tables e below (s₁.setTop (mkF m 28 #[.val (.int x0), .val (.int x1), .val (.int x2), .val (.int ea), .val (.int eb), .unset, .unset, .unset, .unset, .unset] [(.int ((x0.toUInt32 >>> ((2 : Int32) &&& 31).toUInt32).toInt32))])) _
    refine XS.iconst X0.here hx rfl (hb hby at_28) ?_
    show Steps p.tables e below (s₁.setTop (mkF m 29 #[.val (.int x0), .val (.int x1), .val (.int x2), .val (.int ea), .val (.int eb), .unset, .unset, .unset, .unset, .unset] [(.int (3 : Int32)), (.int ((x0.toUInt32 >>> ((2 : Int32) &&& 31).toUInt32).toInt32))])) _
    refine XS.iand X0.here hx rfl (hb hby at_29) rfl ?_
    show Steps p.tables e below (s₁.setTop (mkF m 30 #[.val (.int x0), .val (.int x1), .val (.int x2), .val (.int ea), .val (.int eb), .unset, .unset, .unset, .unset, .unset] [(.int (((x0.toUInt32 >>> ((2 : Int32) &&& 31).toUInt32).toInt32) &&& (3 : Int32)))])) _
    refine XS.istore X0.here hx rfl (hb hby at_30) rfl (l' := #[.val (.int x0), .val (.int x1), .val (.int x2), .val (.int ea), .val (.int eb), .val (.int (((x0.toUInt32 >>> ((2 : Int32) &&& 31).toUInt32).toInt32) &&& (3 : Int32))), .unset, .unset, .unset, .unset]) rfl ?_
    show Steps p.tables e below (s₁.setTop (mkF m 32 #[.val (.int x0), .val (.int x1), .val (.int x2), .val (.int ea), .val (.int eb), .val (.int (((x0.toUInt32 >>> ((2 : Int32) &&& 31).toUInt32).toInt32) &&& (3 : Int32))), .unset, .unset, .unset, .unset] [])) _
    refine XS.iloadN X0.here hx rfl (hb hby at_32) rfl ?_
    show Steps p.tables e below (s₁.setTop (mkF m 33 #[.val (.int x0), .val (.int x1), .val (.int x2), .val (.int ea), .val (.int eb), .val (.int (((x0.toUInt32 >>> ((2 : Int32) &&& 31).toUInt32).toInt32) &&& (3 : Int32))), .unset, .unset, .unset, .unset] [(.int x2)])) _
    refine XS.iconst X0.here hx rfl (hb hby at_33) ?_
    show Steps p.tables e below (s₁.setTop (mkF m 34 #[.val (.int x0), .val (.int x1), .val (.int x2), .val (.int ea), .val (.int eb), .val (.int (((x0.toUInt32 >>> ((2 : Int32) &&& 31).toUInt32).toInt32) &&& (3 : Int32))), .unset, .unset, .unset, .unset] [(.int (1 : Int32)), (.int x2)])) _
    refine XS.iand X0.here hx rfl (hb hby at_34) rfl ?_
    show Steps p.tables e below (s₁.setTop (mkF m 35 #[.val (.int x0), .val (.int x1), .val (.int x2), .val (.int ea), .val (.int eb), .val (.int (((x0.toUInt32 >>> ((2 : Int32) &&& 31).toUInt32).toInt32) &&& (3 : Int32))), .unset, .unset, .unset, .unset] [(.int (x2 &&& (1 : Int32)))])) _
    exact k
  have pw40 : ∀ t, Steps p.tables e below (s₁.setTop (mkF m 43 #[.val (.int x0), .val (.int x1), .val (.int x2), .val (.int ea), .val (.int eb), .val (.int (((x0.toUInt32 >>> ((2 : Int32) &&& 31).toUInt32).toInt32) &&& (3 : Int32))), .unset, .unset, .unset, .unset] [(.int rb)])) t → Steps p.tables e below (s₁.setTop (entryFrame m #[(.int x0), (.int x1), (.int x2)] maxLocals)) t := by
    intro t k
    by_cases hc39 : (x2 &&& (1 : Int32)) = (0 : Int32)
    · have hv : x1 = rb := (srb.symm.trans (if_pos hc39)).symm
      subst hv
      refine pw38 t ?_
      refine XS.ifNo X0.here hx rfl (hb hby at_35) rfl ((if0 _ _).trans (teq hc39).2) ?_
      show Steps p.tables e below (s₁.setTop (mkF m 38 #[.val (.int x0), .val (.int x1), .val (.int x2), .val (.int ea), .val (.int eb), .val (.int (((x0.toUInt32 >>> ((2 : Int32) &&& 31).toUInt32).toInt32) &&& (3 : Int32))), .unset, .unset, .unset, .unset] [])) _
      refine XS.iloadN X0.here hx rfl (hb hby at_38) rfl ?_
      show Steps p.tables e below (s₁.setTop (mkF m 39 #[.val (.int x0), .val (.int x1), .val (.int x2), .val (.int ea), .val (.int eb), .val (.int (((x0.toUInt32 >>> ((2 : Int32) &&& 31).toUInt32).toInt32) &&& (3 : Int32))), .unset, .unset, .unset, .unset] [(.int x1)])) _
      refine XS.goto X0.here hx rfl (pc0 := 39) (pc' := 43) rfl (hb hby at_39) (by decide) (by decide) ?_
      exact k
    · have hv : x2 = rb := (srb.symm.trans (if_neg hc39)).symm
      subst hv
      refine pw38 t ?_
      refine XS.ifYes X0.here hx rfl (pc0 := 35) (pc' := 42) rfl (hb hby at_35) rfl ((if0 _ _).trans (feq hc39).2) (by decide) (by decide) ?_
      show Steps p.tables e below (s₁.setTop (mkF m 42 #[.val (.int x0), .val (.int x1), .val (.int x2), .val (.int ea), .val (.int eb), .val (.int (((x0.toUInt32 >>> ((2 : Int32) &&& 31).toUInt32).toInt32) &&& (3 : Int32))), .unset, .unset, .unset, .unset] [])) _
      refine XS.iloadN X0.here hx rfl (hb hby at_42) rfl ?_
      exact k
  obtain ⟨T41, h41, X41, e41, E41, A41, D41, -, st41⟩ := newO X0 hx hZ hown (hw _ (List.mem_of_getElem? (i := 0) rfl)) (hw _ (List.mem_of_getElem? (i := 1) rfl)) (hw _ (List.mem_of_getElem? (i := 2) rfl)) e0 (g := (mkF m 45 #[.val (.int x0), .val (.int x1), .val (.int x2), .val (.int ea), .val (.int eb), .val (.int (((x0.toUInt32 >>> ((2 : Int32) &&& 31).toUInt32).toInt32) &&& (3 : Int32))), .val (.int rb), .unset, .unset, .unset] [])) rfl (hb hby at_45) (by decide) (by decide)
  obtain ⟨b41, g41⟩ : ∃ z, z = h0.size := ⟨_, rfl⟩
  rw [← g41] at A41 D41 st41
  have g_b41 : n0 ≤ b41 := Nat.le_trans Z0 (Nat.le_of_eq g41.symm)
  have sz_b41 : h0.size ≤ b41 := Nat.le_trans K0.1 (Nat.le_of_eq g41.symm)
  have F_exempt_b41 : Fld Z h41 b41 "com/example/gated_chorus/gatedchorus/gate/Standing" "exempt" "Z" (.int (0 : Int32)) := D41 (Or.inr (hw _ (List.mem_of_getElem? (i := 10) rfl))) (ty := .boolean) (by decide)
  have F_remainder_b41 : Fld Z h41 b41 "com/example/gated_chorus/gatedchorus/gate/Standing" "remainder" "I" (.int (0 : Int32)) := D41 (Or.inr (hw _ (List.mem_of_getElem? (i := 12) rfl))) (ty := .int) (by decide)
  have K41 : Keep h0 h41 [] := K0.ext E41
  have Z41 : n0 ≤ h41.size := (Nat.le_trans Z0 E41.1)
  obtain ⟨_, _, ⟨T42, L42, k42, n42⟩, -, X42, ⟨Lc42, hQ42, l42, y42, z42⟩, st42⟩ := X41.specialBack hx (y := (⟨"com/example/gated_chorus/gatedchorus/gate/Standing", "<init>", "(ZI)V"⟩ : MethodName)) rfl hown (mvT hZ (hw _ (List.mem_of_getElem? (i := 3) rfl))) (mvT hZ (hw _ (List.mem_of_getElem? (i := 4) rfl))) (mvT hZ (hw _ (List.mem_of_getElem? (i := 5) rfl))) (by decide) (backOf (W := 1) (rm_1 l Z a0 hw [] b41 ea x1 h41 n0 Z41 A41 F_exempt_b41 F_remainder_b41 g_b41 hea) hZ (hw _ (List.mem_of_getElem? (i := 5) rfl)) (hw _ (List.mem_of_getElem? (i := 2) rfl)) (by decide) (by decide)) (g := (mkF m 51 #[.val (.int x0), .val (.int x1), .val (.int x2), .val (.int ea), .val (.int eb), .val (.int (((x0.toUInt32 >>> ((2 : Int32) &&& 31).toUInt32).toInt32) &&& (3 : Int32))), .val (.int rb), .unset, .unset, .unset] [(.int x1), (.int ea), (.ref b41), (.ref b41)])) rfl (by rw [hml]; rfl) (Steps.refl _) (a := b41) (argsL := [(.int ea), (.int x1)]) (rest := [(.ref b41)]) (lenOf pd__ZI_V rfl) rfl (by show 2 * 0 + _ ≤ _; exact Nat.le_of_eq rfl) (hb hby at_51) (fun _ _ => ⟨rfl, e41, (by decide : 1 + 0 ≤ _), (by decide : 2 + 0 ≤ _)⟩)
  dsimp only [Pt.U, Pt.locs, Pt.cells, Pt.slots] at X42 l42 y42 z42 st42 hQ42
  subst l42 y42 z42
  obtain ⟨rfl, N42q, K42q, E42q, Fe42q, Fr42q⟩ := hQ42
  have N42 := Fr.app N0 N42q
  have K42 : Keep h0 T42.heap [] := K41.trans K42q (allS (P := fun x => x ∈ [] ∨ h0.size ≤ x) (Or.inr sz_b41) all0)
  have Z42 : n0 ≤ T42.heap.size := (Nat.le_trans Z41 K42q.1)
  obtain ⟨T43, h43, X43, e43, E43, A43, D43, -, st43⟩ := newO X42 hx hZ hown (hw _ (List.mem_of_getElem? (i := 0) rfl)) (hw _ (List.mem_of_getElem? (i := 1) rfl)) (hw _ (List.mem_of_getElem? (i := 2) rfl)) rfl (g := (mkF m 56 #[.val (.int x0), .val (.int x1), .val (.int x2), .val (.int ea), .val (.int eb), .val (.int (((x0.toUInt32 >>> ((2 : Int32) &&& 31).toUInt32).toInt32) &&& (3 : Int32))), .val (.int rb), .val (.ref b41), .unset, .unset] [])) rfl (hb hby at_56) (by decide) (by decide)
  obtain ⟨b43, g43⟩ : ∃ z, z = T42.heap.size := ⟨_, rfl⟩
  rw [← g43] at A43 D43 st43
  have g_b43 : n0 ≤ b43 := Nat.le_trans Z42 (Nat.le_of_eq g43.symm)
  have sz_b43 : h0.size ≤ b43 := Nat.le_trans K42.1 (Nat.le_of_eq g43.symm)
  have F_exempt_b43 : Fld Z h43 b43 "com/example/gated_chorus/gatedchorus/gate/Standing" "exempt" "Z" (.int (0 : Int32)) := D43 (Or.inr (hw _ (List.mem_of_getElem? (i := 10) rfl))) (ty := .boolean) (by decide)
  have F_remainder_b43 : Fld Z h43 b43 "com/example/gated_chorus/gatedchorus/gate/Standing" "remainder" "I" (.int (0 : Int32)) := D43 (Or.inr (hw _ (List.mem_of_getElem? (i := 12) rfl))) (ty := .int) (by decide)
  have K43 : Keep h0 h43 [] := K42.ext E43
  have Z43 : n0 ≤ h43.size := (Nat.le_trans Z42 E43.1)
  obtain ⟨_, _, ⟨T44, L44, k44, n44⟩, -, X44, ⟨Lc44, hQ44, l44, y44, z44⟩, st44⟩ := X43.specialBack hx (y := (⟨"com/example/gated_chorus/gatedchorus/gate/Standing", "<init>", "(ZI)V"⟩ : MethodName)) rfl hown (mvT hZ (hw _ (List.mem_of_getElem? (i := 3) rfl))) (mvT hZ (hw _ (List.mem_of_getElem? (i := 4) rfl))) (mvT hZ (hw _ (List.mem_of_getElem? (i := 5) rfl))) (by decide) (backOf (W := 1) (rm_1 l Z a0 hw [] b43 eb rb h43 n0 Z43 A43 F_exempt_b43 F_remainder_b43 g_b43 heb) hZ (hw _ (List.mem_of_getElem? (i := 5) rfl)) (hw _ (List.mem_of_getElem? (i := 2) rfl)) (by decide) (by decide)) (g := (mkF m 64 #[.val (.int x0), .val (.int x1), .val (.int x2), .val (.int ea), .val (.int eb), .val (.int (((x0.toUInt32 >>> ((2 : Int32) &&& 31).toUInt32).toInt32) &&& (3 : Int32))), .val (.int rb), .val (.ref b41), .unset, .unset] [(.int rb), (.int eb), (.ref b43), (.ref b43)])) rfl (by rw [hml]; rfl) (Steps.refl _) (a := b43) (argsL := [(.int eb), (.int rb)]) (rest := [(.ref b43)]) (lenOf pd__ZI_V rfl) rfl (by show 2 * 0 + _ ≤ _; exact Nat.le_of_eq rfl) (hb hby at_64) (fun _ _ => ⟨rfl, e43, (by decide : 2 + 0 ≤ _), (by decide : 4 + 0 ≤ _)⟩)
  dsimp only [Pt.U, Pt.locs, Pt.cells, Pt.slots] at X44 l44 y44 z44 st44 hQ44
  subst l44 y44 z44
  obtain ⟨rfl, N44q, K44q, E44q, Fe44q, Fr44q⟩ := hQ44
  have N44 := Fr.app N42 N44q
  have K44 : Keep h0 T44.heap [] := K43.trans K44q (allS (P := fun x => x ∈ [] ∨ h0.size ≤ x) (Or.inr sz_b43) all0)
  have Z44 : n0 ≤ T44.heap.size := (Nat.le_trans Z43 K44q.1)
  have pw45 : ∀ t, Steps p.tables e below (T44.setTop (mkF m 72 #[.val (.int x0), .val (.int x1), .val (.int x2), .val (.int ea), .val (.int eb), .val (.int (((x0.toUInt32 >>> ((2 : Int32) &&& 31).toUInt32).toInt32) &&& (3 : Int32))), .val (.int rb), .val (.ref b41), .val (.ref b43), .unset] [(.int (1 : Int32)), (.int (((x0.toUInt32 >>> ((2 : Int32) &&& 31).toUInt32).toInt32) &&& (3 : Int32)))])) t → Steps p.tables e below (s₁.setTop (entryFrame m #[(.int x0), (.int x1), (.int x2)] maxLocals)) t := by
    intro t k
    refine pw40 t ?_
    refine XS.istore X0.here hx rfl (hb hby at_43) rfl (l' := #[.val (.int x0), .val (.int x1), .val (.int x2), .val (.int ea), .val (.int eb), .val (.int (((x0.toUInt32 >>> ((2 : Int32) &&& 31).toUInt32).toInt32) &&& (3 : Int32))), .val (.int rb), .unset, .unset, .unset]) rfl ?_
    show Steps p.tables e below (s₁.setTop (mkF m 45 #[.val (.int x0), .val (.int x1), .val (.int x2), .val (.int ea), .val (.int eb), .val (.int (((x0.toUInt32 >>> ((2 : Int32) &&& 31).toUInt32).toInt32) &&& (3 : Int32))), .val (.int rb), .unset, .unset, .unset] [])) _
    refine st41 _ ?_
    show Steps p.tables e below (T41.setTop (mkF m 48 #[.val (.int x0), .val (.int x1), .val (.int x2), .val (.int ea), .val (.int eb), .val (.int (((x0.toUInt32 >>> ((2 : Int32) &&& 31).toUInt32).toInt32) &&& (3 : Int32))), .val (.int rb), .unset, .unset, .unset] [(.ref b41)])) _
    refine XS.dup X41.here hx rfl (hb hby at_48) rfl rfl ?_
    show Steps p.tables e below (T41.setTop (mkF m 49 #[.val (.int x0), .val (.int x1), .val (.int x2), .val (.int ea), .val (.int eb), .val (.int (((x0.toUInt32 >>> ((2 : Int32) &&& 31).toUInt32).toInt32) &&& (3 : Int32))), .val (.int rb), .unset, .unset, .unset] [(.ref b41), (.ref b41)])) _
    refine XS.iloadN X41.here hx rfl (hb hby at_49) rfl ?_
    show Steps p.tables e below (T41.setTop (mkF m 50 #[.val (.int x0), .val (.int x1), .val (.int x2), .val (.int ea), .val (.int eb), .val (.int (((x0.toUInt32 >>> ((2 : Int32) &&& 31).toUInt32).toInt32) &&& (3 : Int32))), .val (.int rb), .unset, .unset, .unset] [(.int ea), (.ref b41), (.ref b41)])) _
    refine XS.iloadN X41.here hx rfl (hb hby at_50) rfl ?_
    show Steps p.tables e below (T41.setTop (mkF m 51 #[.val (.int x0), .val (.int x1), .val (.int x2), .val (.int ea), .val (.int eb), .val (.int (((x0.toUInt32 >>> ((2 : Int32) &&& 31).toUInt32).toInt32) &&& (3 : Int32))), .val (.int rb), .unset, .unset, .unset] [(.int x1), (.int ea), (.ref b41), (.ref b41)])) _
    refine st42.trans ?_
    show Steps p.tables e below (T42.setTop (mkF m 54 #[.val (.int x0), .val (.int x1), .val (.int x2), .val (.int ea), .val (.int eb), .val (.int (((x0.toUInt32 >>> ((2 : Int32) &&& 31).toUInt32).toInt32) &&& (3 : Int32))), .val (.int rb), .unset, .unset, .unset] [(.ref b41)])) _
    refine XS.astore X42.here hx rfl (hb hby at_54) rfl rfl (l' := #[.val (.int x0), .val (.int x1), .val (.int x2), .val (.int ea), .val (.int eb), .val (.int (((x0.toUInt32 >>> ((2 : Int32) &&& 31).toUInt32).toInt32) &&& (3 : Int32))), .val (.int rb), .val (.ref b41), .unset, .unset]) rfl ?_
    show Steps p.tables e below (T42.setTop (mkF m 56 #[.val (.int x0), .val (.int x1), .val (.int x2), .val (.int ea), .val (.int eb), .val (.int (((x0.toUInt32 >>> ((2 : Int32) &&& 31).toUInt32).toInt32) &&& (3 : Int32))), .val (.int rb), .val (.ref b41), .unset, .unset] [])) _
    refine st43 _ ?_
    show Steps p.tables e below (T43.setTop (mkF m 59 #[.val (.int x0), .val (.int x1), .val (.int x2), .val (.int ea), .val (.int eb), .val (.int (((x0.toUInt32 >>> ((2 : Int32) &&& 31).toUInt32).toInt32) &&& (3 : Int32))), .val (.int rb), .val (.ref b41), .unset, .unset] [(.ref b43)])) _
    refine XS.dup X43.here hx rfl (hb hby at_59) rfl rfl ?_
    show Steps p.tables e below (T43.setTop (mkF m 60 #[.val (.int x0), .val (.int x1), .val (.int x2), .val (.int ea), .val (.int eb), .val (.int (((x0.toUInt32 >>> ((2 : Int32) &&& 31).toUInt32).toInt32) &&& (3 : Int32))), .val (.int rb), .val (.ref b41), .unset, .unset] [(.ref b43), (.ref b43)])) _
    refine XS.iload X43.here hx rfl (hb hby at_60) rfl ?_
    show Steps p.tables e below (T43.setTop (mkF m 62 #[.val (.int x0), .val (.int x1), .val (.int x2), .val (.int ea), .val (.int eb), .val (.int (((x0.toUInt32 >>> ((2 : Int32) &&& 31).toUInt32).toInt32) &&& (3 : Int32))), .val (.int rb), .val (.ref b41), .unset, .unset] [(.int eb), (.ref b43), (.ref b43)])) _
    refine XS.iload X43.here hx rfl (hb hby at_62) rfl ?_
    show Steps p.tables e below (T43.setTop (mkF m 64 #[.val (.int x0), .val (.int x1), .val (.int x2), .val (.int ea), .val (.int eb), .val (.int (((x0.toUInt32 >>> ((2 : Int32) &&& 31).toUInt32).toInt32) &&& (3 : Int32))), .val (.int rb), .val (.ref b41), .unset, .unset] [(.int rb), (.int eb), (.ref b43), (.ref b43)])) _
    refine st44.trans ?_
    show Steps p.tables e below (T44.setTop (mkF m 67 #[.val (.int x0), .val (.int x1), .val (.int x2), .val (.int ea), .val (.int eb), .val (.int (((x0.toUInt32 >>> ((2 : Int32) &&& 31).toUInt32).toInt32) &&& (3 : Int32))), .val (.int rb), .val (.ref b41), .unset, .unset] [(.ref b43)])) _
    refine XS.astore X44.here hx rfl (hb hby at_67) rfl rfl (l' := #[.val (.int x0), .val (.int x1), .val (.int x2), .val (.int ea), .val (.int eb), .val (.int (((x0.toUInt32 >>> ((2 : Int32) &&& 31).toUInt32).toInt32) &&& (3 : Int32))), .val (.int rb), .val (.ref b41), .val (.ref b43), .unset]) rfl ?_
    show Steps p.tables e below (T44.setTop (mkF m 69 #[.val (.int x0), .val (.int x1), .val (.int x2), .val (.int ea), .val (.int eb), .val (.int (((x0.toUInt32 >>> ((2 : Int32) &&& 31).toUInt32).toInt32) &&& (3 : Int32))), .val (.int rb), .val (.ref b41), .val (.ref b43), .unset] [])) _
    refine XS.iload X44.here hx rfl (hb hby at_69) rfl ?_
    show Steps p.tables e below (T44.setTop (mkF m 71 #[.val (.int x0), .val (.int x1), .val (.int x2), .val (.int ea), .val (.int eb), .val (.int (((x0.toUInt32 >>> ((2 : Int32) &&& 31).toUInt32).toInt32) &&& (3 : Int32))), .val (.int rb), .val (.ref b41), .val (.ref b43), .unset] [(.int (((x0.toUInt32 >>> ((2 : Int32) &&& 31).toUInt32).toInt32) &&& (3 : Int32)))])) _
    refine XS.iconst X44.here hx rfl (hb hby at_71) ?_
    show Steps p.tables e below (T44.setTop (mkF m 72 #[.val (.int x0), .val (.int x1), .val (.int x2), .val (.int ea), .val (.int eb), .val (.int (((x0.toUInt32 >>> ((2 : Int32) &&& 31).toUInt32).toInt32) &&& (3 : Int32))), .val (.int rb), .val (.ref b41), .val (.ref b43), .unset] [(.int (1 : Int32)), (.int (((x0.toUInt32 >>> ((2 : Int32) &&& 31).toUInt32).toInt32) &&& (3 : Int32)))])) _
    exact k
  by_cases hc46 : (((x0.toUInt32 >>> ((2 : Int32) &&& 31).toUInt32).toInt32) &&& (3 : Int32)) = (1 : Int32)
  · skip
    obtain ⟨cq47, kq47, q47a, q47b, q47c⟩ := isOf hZ rfl ((E42q.ext E43).keep K44q)
    obtain ⟨_, _, ⟨T47, L47, k47, n47⟩, -, X47, ⟨Lc47, hQ47, l47, y47, z47⟩, st47⟩ := X44.virtualBack hx (y := (⟨"com/example/gated_chorus/gatedchorus/gate/Standing", "equals", "(Ljava/lang/Object;)Z"⟩ : MethodName)) (z := (⟨"com/example/gated_chorus/gatedchorus/gate/Standing", "equals", "(Ljava/lang/Object;)Z"⟩ : MethodName)) hown (mvT hZ (hw _ (List.mem_of_getElem? (i := 13) rfl))) (mvT hZ (hw _ (List.mem_of_getElem? (i := 14) rfl))) (notFace_of_selects (args := #[]) (mvT hZ (hw _ (List.mem_of_getElem? (i := 16) rfl)))) (mvT hZ (hw _ (List.mem_of_getElem? (i := 16) rfl))) (mvT hZ (hw _ (List.mem_of_getElem? (i := 15) rfl))) (by decide) (backOf (W := 0) (rm_3n l Z a0 hw [] b41 T44.heap n0 Z44 ) hZ (hw _ (List.mem_of_getElem? (i := 17) rfl)) (hw _ (List.mem_of_getElem? (i := 2) rfl)) (by decide) (by decide)) q47a q47c (g := (mkF m 78 #[.val (.int x0), .val (.int x1), .val (.int x2), .val (.int ea), .val (.int eb), .val (.int (((x0.toUInt32 >>> ((2 : Int32) &&& 31).toUInt32).toInt32) &&& (3 : Int32))), .val (.int rb), .val (.ref b41), .val (.ref b43), .unset] [.null, (.ref b41)])) rfl (by rw [hml]; rfl) (Steps.refl _) (argsL := [.null]) (rest := []) (lenOf pd__Ljava_lang_Object__Z rfl) rfl (by show 2 * 0 + _ ≤ _; exact Nat.le_of_eq rfl) (hb hby at_78) (fun _ _ => ⟨rfl, rfl, (by decide : 2 + 0 ≤ _), (by decide : 4 + 0 ≤ _)⟩)
    dsimp only [Pt.U, Pt.locs, Pt.cells, Pt.slots] at X47 l47 y47 z47 st47 hQ47
    subst l47 y47 z47
    obtain ⟨rfl, N47q, e47q⟩ := hQ47
    have N47 := Fr.app N44 N47q
    obtain ⟨fs, hr, hrun, hended, hW, hsame⟩ := X47.leave (v := some (.int (1 : Int32))) (fun h => by rw [Bd.returns] at h; cases h)
    refine ⟨_, _, pw45 _ ?_, hrun, hended, _, _, rfl, ?_, ⟨_, rfl⟩, hW, hsame.mono (by decide) (by decide)⟩
    · skip
      refine XS.icmpNo X44.here hx rfl (hb hby at_72) rfl (teq hc46).2 ?_
      show Steps p.tables e below (T44.setTop (mkF m 75 #[.val (.int x0), .val (.int x1), .val (.int x2), .val (.int ea), .val (.int eb), .val (.int (((x0.toUInt32 >>> ((2 : Int32) &&& 31).toUInt32).toInt32) &&& (3 : Int32))), .val (.int rb), .val (.ref b41), .val (.ref b43), .unset] [])) _
      refine XS.aload X44.here hx rfl (hb hby at_75) rfl rfl ?_
      show Steps p.tables e below (T44.setTop (mkF m 77 #[.val (.int x0), .val (.int x1), .val (.int x2), .val (.int ea), .val (.int eb), .val (.int (((x0.toUInt32 >>> ((2 : Int32) &&& 31).toUInt32).toInt32) &&& (3 : Int32))), .val (.int rb), .val (.ref b41), .val (.ref b43), .unset] [(.ref b41)])) _
      refine XS.aconstNull X44.here hx rfl (hb hby at_77) ?_
      show Steps p.tables e below (T44.setTop (mkF m 78 #[.val (.int x0), .val (.int x1), .val (.int x2), .val (.int ea), .val (.int eb), .val (.int (((x0.toUInt32 >>> ((2 : Int32) &&& 31).toUInt32).toInt32) &&& (3 : Int32))), .val (.int rb), .val (.ref b41), .val (.ref b43), .unset] [.null, (.ref b41)])) _
      refine st47.trans ?_
      show Steps p.tables e below (T47.setTop (mkF m 81 #[.val (.int x0), .val (.int x1), .val (.int x2), .val (.int ea), .val (.int eb), .val (.int (((x0.toUInt32 >>> ((2 : Int32) &&& 31).toUInt32).toInt32) &&& (3 : Int32))), .val (.int rb), .val (.ref b41), .val (.ref b43), .unset] [(.int (0 : Int32))])) _
      refine XS.ifNo X47.here hx rfl (hb hby at_81) rfl ((if0 _ _).trans (teq (by decide : (0 : Int32) = (0 : Int32))).2) ?_
      show Steps p.tables e below (T47.setTop (mkF m 84 #[.val (.int x0), .val (.int x1), .val (.int x2), .val (.int ea), .val (.int eb), .val (.int (((x0.toUInt32 >>> ((2 : Int32) &&& 31).toUInt32).toInt32) &&& (3 : Int32))), .val (.int rb), .val (.ref b41), .val (.ref b43), .unset] [])) _
      refine XS.iconst X47.here hx rfl (hb hby at_84) ?_
      show Steps p.tables e below (T47.setTop (mkF m 85 #[.val (.int x0), .val (.int x1), .val (.int x2), .val (.int ea), .val (.int eb), .val (.int (((x0.toUInt32 >>> ((2 : Int32) &&& 31).toUInt32).toInt32) &&& (3 : Int32))), .val (.int rb), .val (.ref b41), .val (.ref b43), .unset] [(.int (1 : Int32))])) _
      refine XS.goto X47.here hx rfl (pc0 := 85) (pc' := 89) rfl (hb hby at_85) (by decide) (by decide) ?_
      show Steps p.tables e below (T47.setTop (mkF m 89 #[.val (.int x0), .val (.int x1), .val (.int x2), .val (.int ea), .val (.int eb), .val (.int (((x0.toUInt32 >>> ((2 : Int32) &&& 31).toUInt32).toInt32) &&& (3 : Int32))), .val (.int rb), .val (.ref b41), .val (.ref b43), .unset] [(.int (1 : Int32))])) _
      exact retN X47 hx (t := .boolean) Bd.returns (by simp) (hb hby at_89) hr
    · show Q_0 Z x0 x1 x2 ea eb rb cl ca h0 n0 _ T47.heap _
      rw [e47q]
      exact ⟨rfl, N47⟩
  · skip
    have pw48 : ∀ t, Steps p.tables e below (T44.setTop (mkF m 93 #[.val (.int x0), .val (.int x1), .val (.int x2), .val (.int ea), .val (.int eb), .val (.int (((x0.toUInt32 >>> ((2 : Int32) &&& 31).toUInt32).toInt32) &&& (3 : Int32))), .val (.int rb), .val (.ref b41), .val (.ref b43), .unset] [(.int (2 : Int32)), (.int (((x0.toUInt32 >>> ((2 : Int32) &&& 31).toUInt32).toInt32) &&& (3 : Int32)))])) t → Steps p.tables e below (s₁.setTop (entryFrame m #[(.int x0), (.int x1), (.int x2)] maxLocals)) t := by
      intro t k
      refine pw45 t ?_
      refine XS.icmpYes X44.here hx rfl (pc0 := 72) (pc' := 90) rfl (hb hby at_72) rfl (feq hc46).2 (by decide) (by decide) ?_
      show Steps p.tables e below (T44.setTop (mkF m 90 #[.val (.int x0), .val (.int x1), .val (.int x2), .val (.int ea), .val (.int eb), .val (.int (((x0.toUInt32 >>> ((2 : Int32) &&& 31).toUInt32).toInt32) &&& (3 : Int32))), .val (.int rb), .val (.ref b41), .val (.ref b43), .unset] [])) _
      refine XS.iload X44.here hx rfl (hb hby at_90) rfl ?_
      show Steps p.tables e below (T44.setTop (mkF m 92 #[.val (.int x0), .val (.int x1), .val (.int x2), .val (.int ea), .val (.int eb), .val (.int (((x0.toUInt32 >>> ((2 : Int32) &&& 31).toUInt32).toInt32) &&& (3 : Int32))), .val (.int rb), .val (.ref b41), .val (.ref b43), .unset] [(.int (((x0.toUInt32 >>> ((2 : Int32) &&& 31).toUInt32).toInt32) &&& (3 : Int32)))])) _
      refine XS.iconst X44.here hx rfl (hb hby at_92) ?_
      show Steps p.tables e below (T44.setTop (mkF m 93 #[.val (.int x0), .val (.int x1), .val (.int x2), .val (.int ea), .val (.int eb), .val (.int (((x0.toUInt32 >>> ((2 : Int32) &&& 31).toUInt32).toInt32) &&& (3 : Int32))), .val (.int rb), .val (.ref b41), .val (.ref b43), .unset] [(.int (2 : Int32)), (.int (((x0.toUInt32 >>> ((2 : Int32) &&& 31).toUInt32).toInt32) &&& (3 : Int32)))])) _
      exact k
    by_cases hc49 : (((x0.toUInt32 >>> ((2 : Int32) &&& 31).toUInt32).toInt32) &&& (3 : Int32)) = (2 : Int32)
    · skip
      have hca50 : ∀ j : Int32, ¬ (j < 0 ∨ cl.slots.size ≤ j.toNatClampNeg) → ∃ b, cl.slots[j.toNatClampNeg]? = some (.ref b) ∧ Exa Z T44.heap b "java/lang/Integer" := fun j hj => by obtain ⟨b, q1, q2⟩ := hcache j hj; exact ⟨b, q1, q2.keep K44⟩
      obtain ⟨_, _, ⟨T51, L51, k51, n51⟩, -, X51, ⟨Lc51, hQ51, l51, y51, z51⟩, st51⟩ := Jvm.LawKit.callS X44 hx (y := (⟨"java/lang/Integer", "valueOf", "(I)Ljava/lang/Integer;"⟩ : MethodName)) hown (mvT hZ (hw _ (List.mem_of_getElem? (i := 20) rfl))) (mvT hZ (hw _ (List.mem_of_getElem? (i := 21) rfl))) (mvT hZ (hw _ (List.mem_of_getElem? (i := 22) rfl))) (mvT hZ (hw _ (List.mem_of_getElem? (i := 23) rfl))) (by decide) (backOf (W := 1) (rm_4 l Z a0 hw [] x1 cl ca T44.heap n0 Z44 (own_staKeep S_h K44 ns0) (own_staKeep S_c K44 ns0) (own_arrKeep Ar_c K44) hsz hca50) hZ (hw _ (List.mem_of_getElem? (i := 23) rfl)) (hw _ (List.mem_of_getElem? (i := 22) rfl)) (by decide) (by decide)) (g := (mkF m 99 #[.val (.int x0), .val (.int x1), .val (.int x2), .val (.int ea), .val (.int eb), .val (.int (((x0.toUInt32 >>> ((2 : Int32) &&& 31).toUInt32).toInt32) &&& (3 : Int32))), .val (.int rb), .val (.ref b41), .val (.ref b43), .unset] [(.int x1), (.ref b41)])) rfl (by rw [hml]; rfl) (argsL := [(.int x1)]) (rest := [(.ref b41)]) (lenOf pd__I_Ljava_lang_Integer_ rfl) rfl (by show 2 * 0 + _ ≤ _; exact Nat.le_of_eq rfl) (hb hby at_99) (fun _ _ => ⟨rfl, rfl, (by decide : 2 + 1 ≤ _), (by decide : 4 + 1 ≤ _)⟩)
      dsimp only [Pt.U, Pt.locs, Pt.cells, Pt.slots] at X51 l51 y51 z51 st51 hQ51
      subst l51 y51 z51
      obtain ⟨b51, rfl, N51q, K51q, E51q⟩ := hQ51
      have N51 := Fr.app N44 N51q
      have K51 : Keep h0 T51.heap [] := K44.trans K51q all0
      have Z51 : n0 ≤ T51.heap.size := (Nat.le_trans Z44 K51q.1)
      obtain ⟨cq52, kq52, q52a, q52b, q52c⟩ := isOf hZ rfl (((E42q.ext E43).keep K44q).keep K51q)
      obtain ⟨_, _, ⟨T52, L52, k52, n52⟩, -, X52, ⟨Lc52, hQ52, l52, y52, z52⟩, st52⟩ := X51.virtualBack hx (y := (⟨"com/example/gated_chorus/gatedchorus/gate/Standing", "equals", "(Ljava/lang/Object;)Z"⟩ : MethodName)) (z := (⟨"com/example/gated_chorus/gatedchorus/gate/Standing", "equals", "(Ljava/lang/Object;)Z"⟩ : MethodName)) hown (mvT hZ (hw _ (List.mem_of_getElem? (i := 13) rfl))) (mvT hZ (hw _ (List.mem_of_getElem? (i := 14) rfl))) (notFace_of_selects (args := #[]) (mvT hZ (hw _ (List.mem_of_getElem? (i := 16) rfl)))) (mvT hZ (hw _ (List.mem_of_getElem? (i := 16) rfl))) (mvT hZ (hw _ (List.mem_of_getElem? (i := 15) rfl))) (by decide) (backOf (W := 0) (rm_3i l Z a0 hw [] b41 b51 T51.heap n0 Z51 E51q (own_not Z a0 hw)) hZ (hw _ (List.mem_of_getElem? (i := 17) rfl)) (hw _ (List.mem_of_getElem? (i := 2) rfl)) (by decide) (by decide)) q52a q52c (g := (mkF m 102 #[.val (.int x0), .val (.int x1), .val (.int x2), .val (.int ea), .val (.int eb), .val (.int (((x0.toUInt32 >>> ((2 : Int32) &&& 31).toUInt32).toInt32) &&& (3 : Int32))), .val (.int rb), .val (.ref b41), .val (.ref b43), .unset] [(.ref b51), (.ref b41)])) rfl (by rw [hml]; rfl) (Steps.refl _) (argsL := [(.ref b51)]) (rest := []) (lenOf pd__Ljava_lang_Object__Z rfl) rfl (by show 2 * 0 + _ ≤ _; exact Nat.le_of_eq rfl) (hb hby at_102) (fun _ _ => ⟨rfl, rfl, (by decide : 3 + 0 ≤ _), (by decide : 5 + 0 ≤ _)⟩)
      dsimp only [Pt.U, Pt.locs, Pt.cells, Pt.slots] at X52 l52 y52 z52 st52 hQ52
      subst l52 y52 z52
      obtain ⟨rfl, N52q, e52q⟩ := hQ52
      have N52 := Fr.app N51 N52q
      obtain ⟨fs, hr, hrun, hended, hW, hsame⟩ := X52.leave (v := some (.int (1 : Int32))) (fun h => by rw [Bd.returns] at h; cases h)
      refine ⟨_, _, pw48 _ ?_, hrun, hended, _, _, rfl, ?_, ⟨_, rfl⟩, hW, hsame.mono (by decide) (by decide)⟩
      · skip
        refine XS.icmpNo X44.here hx rfl (hb hby at_93) rfl (teq hc49).2 ?_
        show Steps p.tables e below (T44.setTop (mkF m 96 #[.val (.int x0), .val (.int x1), .val (.int x2), .val (.int ea), .val (.int eb), .val (.int (((x0.toUInt32 >>> ((2 : Int32) &&& 31).toUInt32).toInt32) &&& (3 : Int32))), .val (.int rb), .val (.ref b41), .val (.ref b43), .unset] [])) _
        refine XS.aload X44.here hx rfl (hb hby at_96) rfl rfl ?_
        show Steps p.tables e below (T44.setTop (mkF m 98 #[.val (.int x0), .val (.int x1), .val (.int x2), .val (.int ea), .val (.int eb), .val (.int (((x0.toUInt32 >>> ((2 : Int32) &&& 31).toUInt32).toInt32) &&& (3 : Int32))), .val (.int rb), .val (.ref b41), .val (.ref b43), .unset] [(.ref b41)])) _
        refine XS.iloadN X44.here hx rfl (hb hby at_98) rfl ?_
        show Steps p.tables e below (T44.setTop (mkF m 99 #[.val (.int x0), .val (.int x1), .val (.int x2), .val (.int ea), .val (.int eb), .val (.int (((x0.toUInt32 >>> ((2 : Int32) &&& 31).toUInt32).toInt32) &&& (3 : Int32))), .val (.int rb), .val (.ref b41), .val (.ref b43), .unset] [(.int x1), (.ref b41)])) _
        refine st51 _ ?_
        show Steps p.tables e below (T51.setTop (mkF m 102 #[.val (.int x0), .val (.int x1), .val (.int x2), .val (.int ea), .val (.int eb), .val (.int (((x0.toUInt32 >>> ((2 : Int32) &&& 31).toUInt32).toInt32) &&& (3 : Int32))), .val (.int rb), .val (.ref b41), .val (.ref b43), .unset] [(.ref b51), (.ref b41)])) _
        refine st52.trans ?_
        show Steps p.tables e below (T52.setTop (mkF m 105 #[.val (.int x0), .val (.int x1), .val (.int x2), .val (.int ea), .val (.int eb), .val (.int (((x0.toUInt32 >>> ((2 : Int32) &&& 31).toUInt32).toInt32) &&& (3 : Int32))), .val (.int rb), .val (.ref b41), .val (.ref b43), .unset] [(.int (0 : Int32))])) _
        refine XS.ifNo X52.here hx rfl (hb hby at_105) rfl ((if0 _ _).trans (teq (by decide : (0 : Int32) = (0 : Int32))).2) ?_
        show Steps p.tables e below (T52.setTop (mkF m 108 #[.val (.int x0), .val (.int x1), .val (.int x2), .val (.int ea), .val (.int eb), .val (.int (((x0.toUInt32 >>> ((2 : Int32) &&& 31).toUInt32).toInt32) &&& (3 : Int32))), .val (.int rb), .val (.ref b41), .val (.ref b43), .unset] [])) _
        refine XS.iconst X52.here hx rfl (hb hby at_108) ?_
        show Steps p.tables e below (T52.setTop (mkF m 109 #[.val (.int x0), .val (.int x1), .val (.int x2), .val (.int ea), .val (.int eb), .val (.int (((x0.toUInt32 >>> ((2 : Int32) &&& 31).toUInt32).toInt32) &&& (3 : Int32))), .val (.int rb), .val (.ref b41), .val (.ref b43), .unset] [(.int (1 : Int32))])) _
        refine XS.goto X52.here hx rfl (pc0 := 109) (pc' := 113) rfl (hb hby at_109) (by decide) (by decide) ?_
        show Steps p.tables e below (T52.setTop (mkF m 113 #[.val (.int x0), .val (.int x1), .val (.int x2), .val (.int ea), .val (.int eb), .val (.int (((x0.toUInt32 >>> ((2 : Int32) &&& 31).toUInt32).toInt32) &&& (3 : Int32))), .val (.int rb), .val (.ref b41), .val (.ref b43), .unset] [(.int (1 : Int32))])) _
        exact retN X52 hx (t := .boolean) Bd.returns (by simp) (hb hby at_113) hr
      · show Q_0 Z x0 x1 x2 ea eb rb cl ca h0 n0 _ T52.heap _
        rw [e52q]
        exact ⟨rfl, N52⟩
    · skip
      have pw53 : ∀ t, Steps p.tables e below (T44.setTop (mkF m 117 #[.val (.int x0), .val (.int x1), .val (.int x2), .val (.int ea), .val (.int eb), .val (.int (((x0.toUInt32 >>> ((2 : Int32) &&& 31).toUInt32).toInt32) &&& (3 : Int32))), .val (.int rb), .val (.ref b41), .val (.ref b43), .unset] [(.int (3 : Int32)), (.int (((x0.toUInt32 >>> ((2 : Int32) &&& 31).toUInt32).toInt32) &&& (3 : Int32)))])) t → Steps p.tables e below (s₁.setTop (entryFrame m #[(.int x0), (.int x1), (.int x2)] maxLocals)) t := by
        intro t k
        refine pw48 t ?_
        refine XS.icmpYes X44.here hx rfl (pc0 := 93) (pc' := 114) rfl (hb hby at_93) rfl (feq hc49).2 (by decide) (by decide) ?_
        show Steps p.tables e below (T44.setTop (mkF m 114 #[.val (.int x0), .val (.int x1), .val (.int x2), .val (.int ea), .val (.int eb), .val (.int (((x0.toUInt32 >>> ((2 : Int32) &&& 31).toUInt32).toInt32) &&& (3 : Int32))), .val (.int rb), .val (.ref b41), .val (.ref b43), .unset] [])) _
        refine XS.iload X44.here hx rfl (hb hby at_114) rfl ?_
        show Steps p.tables e below (T44.setTop (mkF m 116 #[.val (.int x0), .val (.int x1), .val (.int x2), .val (.int ea), .val (.int eb), .val (.int (((x0.toUInt32 >>> ((2 : Int32) &&& 31).toUInt32).toInt32) &&& (3 : Int32))), .val (.int rb), .val (.ref b41), .val (.ref b43), .unset] [(.int (((x0.toUInt32 >>> ((2 : Int32) &&& 31).toUInt32).toInt32) &&& (3 : Int32)))])) _
        refine XS.iconst X44.here hx rfl (hb hby at_116) ?_
        show Steps p.tables e below (T44.setTop (mkF m 117 #[.val (.int x0), .val (.int x1), .val (.int x2), .val (.int ea), .val (.int eb), .val (.int (((x0.toUInt32 >>> ((2 : Int32) &&& 31).toUInt32).toInt32) &&& (3 : Int32))), .val (.int rb), .val (.ref b41), .val (.ref b43), .unset] [(.int (3 : Int32)), (.int (((x0.toUInt32 >>> ((2 : Int32) &&& 31).toUInt32).toInt32) &&& (3 : Int32)))])) _
        exact k
      by_cases hc54 : (((x0.toUInt32 >>> ((2 : Int32) &&& 31).toUInt32).toInt32) &&& (3 : Int32)) = (3 : Int32)
      · skip
        obtain ⟨cq55, kq55, q55a, q55b, q55c⟩ := isOf hZ rfl ((E42q.ext E43).keep K44q)
        obtain ⟨_, _, ⟨T55, L55, k55, n55⟩, -, X55, ⟨Lc55, hQ55, l55, y55, z55⟩, st55⟩ := X44.virtualBack hx (y := (⟨"com/example/gated_chorus/gatedchorus/gate/Standing", "equals", "(Ljava/lang/Object;)Z"⟩ : MethodName)) (z := (⟨"com/example/gated_chorus/gatedchorus/gate/Standing", "equals", "(Ljava/lang/Object;)Z"⟩ : MethodName)) hown (mvT hZ (hw _ (List.mem_of_getElem? (i := 13) rfl))) (mvT hZ (hw _ (List.mem_of_getElem? (i := 14) rfl))) (notFace_of_selects (args := #[]) (mvT hZ (hw _ (List.mem_of_getElem? (i := 16) rfl)))) (mvT hZ (hw _ (List.mem_of_getElem? (i := 16) rfl))) (mvT hZ (hw _ (List.mem_of_getElem? (i := 15) rfl))) (by decide) (backOf (W := 0) (rm_3s l Z a0 hw [] b41 b41 ea x1 ea x1 (1 : Int32) T44.heap n0 Z44 ((E42q.ext E43).keep K44q) ((Fe42q.ext E43).keep K44q (ninS (Nat.ne_of_lt (Nat.lt_of_lt_of_le E42q.lt (Nat.le_of_eq g43.symm))) nin0)) ((Fr42q.ext E43).keep K44q (ninS (Nat.ne_of_lt (Nat.lt_of_lt_of_le E42q.lt (Nat.le_of_eq g43.symm))) nin0)) ((Fe42q.ext E43).keep K44q (ninS (Nat.ne_of_lt (Nat.lt_of_lt_of_le E42q.lt (Nat.le_of_eq g43.symm))) nin0)) ((Fr42q.ext E43).keep K44q (ninS (Nat.ne_of_lt (Nat.lt_of_lt_of_le E42q.lt (Nat.le_of_eq g43.symm))) nin0)) hea (by unfold own_eq; rcases hea with rfl | rfl <;> simp)) hZ (hw _ (List.mem_of_getElem? (i := 17) rfl)) (hw _ (List.mem_of_getElem? (i := 2) rfl)) (by decide) (by decide)) q55a q55c (g := (mkF m 124 #[.val (.int x0), .val (.int x1), .val (.int x2), .val (.int ea), .val (.int eb), .val (.int (((x0.toUInt32 >>> ((2 : Int32) &&& 31).toUInt32).toInt32) &&& (3 : Int32))), .val (.int rb), .val (.ref b41), .val (.ref b43), .unset] [(.ref b41), (.ref b41)])) rfl (by rw [hml]; rfl) (Steps.refl _) (argsL := [(.ref b41)]) (rest := []) (lenOf pd__Ljava_lang_Object__Z rfl) rfl (by show 2 * 0 + _ ≤ _; exact Nat.le_of_eq rfl) (hb hby at_124) (fun _ _ => ⟨rfl, rfl, (by decide : 2 + 0 ≤ _), (by decide : 4 + 0 ≤ _)⟩)
        dsimp only [Pt.U, Pt.locs, Pt.cells, Pt.slots] at X55 l55 y55 z55 st55 hQ55
        subst l55 y55 z55
        obtain ⟨rfl, N55q, e55q⟩ := hQ55
        have N55 := Fr.app N44 N55q
        obtain ⟨fs, hr, hrun, hended, hW, hsame⟩ := X55.leave (v := some (.int (1 : Int32))) (fun h => by rw [Bd.returns] at h; cases h)
        refine ⟨_, _, pw53 _ ?_, hrun, hended, _, _, rfl, ?_, ⟨_, rfl⟩, hW, hsame.mono (by decide) (by decide)⟩
        · skip
          refine XS.icmpNo X44.here hx rfl (hb hby at_117) rfl (teq hc54).2 ?_
          show Steps p.tables e below (T44.setTop (mkF m 120 #[.val (.int x0), .val (.int x1), .val (.int x2), .val (.int ea), .val (.int eb), .val (.int (((x0.toUInt32 >>> ((2 : Int32) &&& 31).toUInt32).toInt32) &&& (3 : Int32))), .val (.int rb), .val (.ref b41), .val (.ref b43), .unset] [])) _
          refine XS.aload X44.here hx rfl (hb hby at_120) rfl rfl ?_
          show Steps p.tables e below (T44.setTop (mkF m 122 #[.val (.int x0), .val (.int x1), .val (.int x2), .val (.int ea), .val (.int eb), .val (.int (((x0.toUInt32 >>> ((2 : Int32) &&& 31).toUInt32).toInt32) &&& (3 : Int32))), .val (.int rb), .val (.ref b41), .val (.ref b43), .unset] [(.ref b41)])) _
          refine XS.aload X44.here hx rfl (hb hby at_122) rfl rfl ?_
          show Steps p.tables e below (T44.setTop (mkF m 124 #[.val (.int x0), .val (.int x1), .val (.int x2), .val (.int ea), .val (.int eb), .val (.int (((x0.toUInt32 >>> ((2 : Int32) &&& 31).toUInt32).toInt32) &&& (3 : Int32))), .val (.int rb), .val (.ref b41), .val (.ref b43), .unset] [(.ref b41), (.ref b41)])) _
          refine st55.trans ?_
          show Steps p.tables e below (T55.setTop (mkF m 127 #[.val (.int x0), .val (.int x1), .val (.int x2), .val (.int ea), .val (.int eb), .val (.int (((x0.toUInt32 >>> ((2 : Int32) &&& 31).toUInt32).toInt32) &&& (3 : Int32))), .val (.int rb), .val (.ref b41), .val (.ref b43), .unset] [(.int (1 : Int32))])) _
          exact retN X55 hx (t := .boolean) Bd.returns (by simp) (hb hby at_127) hr
        · show Q_0 Z x0 x1 x2 ea eb rb cl ca h0 n0 _ T55.heap _
          rw [e55q]
          exact ⟨rfl, N55⟩
      · skip
        have pw56 : ∀ t, Steps p.tables e below (T44.setTop (mkF m 129 #[.val (.int x0), .val (.int x1), .val (.int x2), .val (.int ea), .val (.int eb), .val (.int (((x0.toUInt32 >>> ((2 : Int32) &&& 31).toUInt32).toInt32) &&& (3 : Int32))), .val (.int rb), .val (.ref b41), .val (.ref b43), .unset] [(.int ea)])) t → Steps p.tables e below (s₁.setTop (entryFrame m #[(.int x0), (.int x1), (.int x2)] maxLocals)) t := by
          intro t k
          refine pw53 t ?_
          refine XS.icmpYes X44.here hx rfl (pc0 := 117) (pc' := 128) rfl (hb hby at_117) rfl (feq hc54).2 (by decide) (by decide) ?_
          show Steps p.tables e below (T44.setTop (mkF m 128 #[.val (.int x0), .val (.int x1), .val (.int x2), .val (.int ea), .val (.int eb), .val (.int (((x0.toUInt32 >>> ((2 : Int32) &&& 31).toUInt32).toInt32) &&& (3 : Int32))), .val (.int rb), .val (.ref b41), .val (.ref b43), .unset] [])) _
          refine XS.iloadN X44.here hx rfl (hb hby at_128) rfl ?_
          show Steps p.tables e below (T44.setTop (mkF m 129 #[.val (.int x0), .val (.int x1), .val (.int x2), .val (.int ea), .val (.int eb), .val (.int (((x0.toUInt32 >>> ((2 : Int32) &&& 31).toUInt32).toInt32) &&& (3 : Int32))), .val (.int rb), .val (.ref b41), .val (.ref b43), .unset] [(.int ea)])) _
          exact k
        by_cases hc57 : ea = (0 : Int32)
        · skip
          have pw58 : ∀ t, Steps p.tables e below (T44.setTop (mkF m 143 #[.val (.int x0), .val (.int x1), .val (.int x2), .val (.int ea), .val (.int eb), .val (.int (((x0.toUInt32 >>> ((2 : Int32) &&& 31).toUInt32).toInt32) &&& (3 : Int32))), .val (.int rb), .val (.ref b41), .val (.ref b43), .unset] [(.int eb)])) t → Steps p.tables e below (s₁.setTop (entryFrame m #[(.int x0), (.int x1), (.int x2)] maxLocals)) t := by
            intro t k
            refine pw56 t ?_
            refine XS.ifYes X44.here hx rfl (pc0 := 129) (pc' := 137) rfl (hb hby at_129) rfl ((if0 _ _).trans (teq hc57).1) (by decide) (by decide) ?_
            show Steps p.tables e below (T44.setTop (mkF m 137 #[.val (.int x0), .val (.int x1), .val (.int x2), .val (.int ea), .val (.int eb), .val (.int (((x0.toUInt32 >>> ((2 : Int32) &&& 31).toUInt32).toInt32) &&& (3 : Int32))), .val (.int rb), .val (.ref b41), .val (.ref b43), .unset] [])) _
            refine XS.iloadN X44.here hx rfl (hb hby at_137) rfl ?_
            show Steps p.tables e below (T44.setTop (mkF m 138 #[.val (.int x0), .val (.int x1), .val (.int x2), .val (.int ea), .val (.int eb), .val (.int (((x0.toUInt32 >>> ((2 : Int32) &&& 31).toUInt32).toInt32) &&& (3 : Int32))), .val (.int rb), .val (.ref b41), .val (.ref b43), .unset] [(.int ea)])) _
            refine XS.ifNo X44.here hx rfl (hb hby at_138) rfl ((if0 _ _).trans (teq hc57).2) ?_
            show Steps p.tables e below (T44.setTop (mkF m 141 #[.val (.int x0), .val (.int x1), .val (.int x2), .val (.int ea), .val (.int eb), .val (.int (((x0.toUInt32 >>> ((2 : Int32) &&& 31).toUInt32).toInt32) &&& (3 : Int32))), .val (.int rb), .val (.ref b41), .val (.ref b43), .unset] [])) _
            refine XS.iload X44.here hx rfl (hb hby at_141) rfl ?_
            show Steps p.tables e below (T44.setTop (mkF m 143 #[.val (.int x0), .val (.int x1), .val (.int x2), .val (.int ea), .val (.int eb), .val (.int (((x0.toUInt32 >>> ((2 : Int32) &&& 31).toUInt32).toInt32) &&& (3 : Int32))), .val (.int rb), .val (.ref b41), .val (.ref b43), .unset] [(.int eb)])) _
            exact k
          by_cases hc59 : eb = (0 : Int32)
          · skip
            have pw60 : ∀ t, Steps p.tables e below (T44.setTop (mkF m 149 #[.val (.int x0), .val (.int x1), .val (.int x2), .val (.int ea), .val (.int eb), .val (.int (((x0.toUInt32 >>> ((2 : Int32) &&& 31).toUInt32).toInt32) &&& (3 : Int32))), .val (.int rb), .val (.ref b41), .val (.ref b43), .unset] [(.int rb), (.int x1)])) t → Steps p.tables e below (s₁.setTop (entryFrame m #[(.int x0), (.int x1), (.int x2)] maxLocals)) t := by
              intro t k
              refine pw58 t ?_
              refine XS.ifNo X44.here hx rfl (hb hby at_143) rfl ((if0 _ _).trans (teq hc59).2) ?_
              show Steps p.tables e below (T44.setTop (mkF m 146 #[.val (.int x0), .val (.int x1), .val (.int x2), .val (.int ea), .val (.int eb), .val (.int (((x0.toUInt32 >>> ((2 : Int32) &&& 31).toUInt32).toInt32) &&& (3 : Int32))), .val (.int rb), .val (.ref b41), .val (.ref b43), .unset] [])) _
              refine XS.iloadN X44.here hx rfl (hb hby at_146) rfl ?_
              show Steps p.tables e below (T44.setTop (mkF m 147 #[.val (.int x0), .val (.int x1), .val (.int x2), .val (.int ea), .val (.int eb), .val (.int (((x0.toUInt32 >>> ((2 : Int32) &&& 31).toUInt32).toInt32) &&& (3 : Int32))), .val (.int rb), .val (.ref b41), .val (.ref b43), .unset] [(.int x1)])) _
              refine XS.iload X44.here hx rfl (hb hby at_147) rfl ?_
              show Steps p.tables e below (T44.setTop (mkF m 149 #[.val (.int x0), .val (.int x1), .val (.int x2), .val (.int ea), .val (.int eb), .val (.int (((x0.toUInt32 >>> ((2 : Int32) &&& 31).toUInt32).toInt32) &&& (3 : Int32))), .val (.int rb), .val (.ref b41), .val (.ref b43), .unset] [(.int rb), (.int x1)])) _
              exact k
            by_cases hc61 : x1 = rb
            · skip
              obtain ⟨cq62, kq62, q62a, q62b, q62c⟩ := isOf hZ rfl ((E42q.ext E43).keep K44q)
              obtain ⟨_, _, ⟨T62, L62, k62, n62⟩, -, X62, ⟨Lc62, hQ62, l62, y62, z62⟩, st62⟩ := X44.virtualBack hx (y := (⟨"com/example/gated_chorus/gatedchorus/gate/Standing", "equals", "(Ljava/lang/Object;)Z"⟩ : MethodName)) (z := (⟨"com/example/gated_chorus/gatedchorus/gate/Standing", "equals", "(Ljava/lang/Object;)Z"⟩ : MethodName)) hown (mvT hZ (hw _ (List.mem_of_getElem? (i := 13) rfl))) (mvT hZ (hw _ (List.mem_of_getElem? (i := 14) rfl))) (notFace_of_selects (args := #[]) (mvT hZ (hw _ (List.mem_of_getElem? (i := 16) rfl)))) (mvT hZ (hw _ (List.mem_of_getElem? (i := 16) rfl))) (mvT hZ (hw _ (List.mem_of_getElem? (i := 15) rfl))) (by decide) (backOf (W := 0) (rm_3s l Z a0 hw [] b41 b43 ea x1 eb rb (1 : Int32) T44.heap n0 Z44 E44q ((Fe42q.ext E43).keep K44q (ninS (Nat.ne_of_lt (Nat.lt_of_lt_of_le E42q.lt (Nat.le_of_eq g43.symm))) nin0)) ((Fr42q.ext E43).keep K44q (ninS (Nat.ne_of_lt (Nat.lt_of_lt_of_le E42q.lt (Nat.le_of_eq g43.symm))) nin0)) Fe44q Fr44q heb (by unfold own_eq; rw [if_pos hc57, if_pos hc59, if_pos hc61])) hZ (hw _ (List.mem_of_getElem? (i := 17) rfl)) (hw _ (List.mem_of_getElem? (i := 2) rfl)) (by decide) (by decide)) q62a q62c (g := (mkF m 163 #[.val (.int x0), .val (.int x1), .val (.int x2), .val (.int ea), .val (.int eb), .val (.int (((x0.toUInt32 >>> ((2 : Int32) &&& 31).toUInt32).toInt32) &&& (3 : Int32))), .val (.int rb), .val (.ref b41), .val (.ref b43), .val (.int (1 : Int32))] [(.ref b43), (.ref b41)])) rfl (by rw [hml]; rfl) (Steps.refl _) (argsL := [(.ref b43)]) (rest := []) (lenOf pd__Ljava_lang_Object__Z rfl) rfl (by show 2 * 0 + _ ≤ _; exact Nat.le_of_eq rfl) (hb hby at_163) (fun _ _ => ⟨rfl, rfl, (by decide : 2 + 0 ≤ _), (by decide : 4 + 0 ≤ _)⟩)
              dsimp only [Pt.U, Pt.locs, Pt.cells, Pt.slots] at X62 l62 y62 z62 st62 hQ62
              subst l62 y62 z62
              obtain ⟨rfl, N62q, e62q⟩ := hQ62
              have N62 := Fr.app N44 N62q
              obtain ⟨cq63, kq63, q63a, q63b, q63c⟩ := isOf hZ e62q E44q
              obtain ⟨_, _, ⟨T63, L63, k63, n63⟩, -, X63, ⟨Lc63, hQ63, l63, y63, z63⟩, st63⟩ := X62.virtualBack hx (y := (⟨"com/example/gated_chorus/gatedchorus/gate/Standing", "equals", "(Ljava/lang/Object;)Z"⟩ : MethodName)) (z := (⟨"com/example/gated_chorus/gatedchorus/gate/Standing", "equals", "(Ljava/lang/Object;)Z"⟩ : MethodName)) hown (mvT hZ (hw _ (List.mem_of_getElem? (i := 13) rfl))) (mvT hZ (hw _ (List.mem_of_getElem? (i := 14) rfl))) (notFace_of_selects (args := #[]) (mvT hZ (hw _ (List.mem_of_getElem? (i := 16) rfl)))) (mvT hZ (hw _ (List.mem_of_getElem? (i := 16) rfl))) (mvT hZ (hw _ (List.mem_of_getElem? (i := 15) rfl))) (by decide) (backOf (W := 0) (rm_3s l Z a0 hw [] b43 b41 eb rb ea x1 (1 : Int32) T44.heap n0 Z44 ((E42q.ext E43).keep K44q) Fe44q Fr44q ((Fe42q.ext E43).keep K44q (ninS (Nat.ne_of_lt (Nat.lt_of_lt_of_le E42q.lt (Nat.le_of_eq g43.symm))) nin0)) ((Fr42q.ext E43).keep K44q (ninS (Nat.ne_of_lt (Nat.lt_of_lt_of_le E42q.lt (Nat.le_of_eq g43.symm))) nin0)) hea (by unfold own_eq; rw [if_pos hc59, if_pos hc57, if_pos hc61.symm])) hZ (hw _ (List.mem_of_getElem? (i := 17) rfl)) (hw _ (List.mem_of_getElem? (i := 2) rfl)) (by decide) (by decide)) q63a q63c (g := (mkF m 175 #[.val (.int x0), .val (.int x1), .val (.int x2), .val (.int ea), .val (.int eb), .val (.int (((x0.toUInt32 >>> ((2 : Int32) &&& 31).toUInt32).toInt32) &&& (3 : Int32))), .val (.int rb), .val (.ref b41), .val (.ref b43), .val (.int (1 : Int32))] [(.ref b41), (.ref b43)])) rfl (by rw [hml]; rfl) (Steps.refl _) (argsL := [(.ref b41)]) (rest := []) (lenOf pd__Ljava_lang_Object__Z rfl) rfl (by show 2 * 0 + _ ≤ _; exact Nat.le_of_eq rfl) (hb hby at_175) (fun _ _ => ⟨rfl, e62q, (by decide : 2 + 0 ≤ _), (by decide : 4 + 0 ≤ _)⟩)
              dsimp only [Pt.U, Pt.locs, Pt.cells, Pt.slots] at X63 l63 y63 z63 st63 hQ63
              subst l63 y63 z63
              obtain ⟨rfl, N63q, e63q⟩ := hQ63
              have N63 := Fr.app N62 N63q
              obtain ⟨fs, hr, hrun, hended, hW, hsame⟩ := X63.leave (v := some (.int (1 : Int32))) (fun h => by rw [Bd.returns] at h; cases h)
              refine ⟨_, _, pw60 _ ?_, hrun, hended, _, _, rfl, ?_, ⟨_, rfl⟩, hW, hsame.mono (by decide) (by decide)⟩
              · skip
                refine XS.icmpNo X44.here hx rfl (hb hby at_149) rfl (teq hc61).2 ?_
                show Steps p.tables e below (T44.setTop (mkF m 152 #[.val (.int x0), .val (.int x1), .val (.int x2), .val (.int ea), .val (.int eb), .val (.int (((x0.toUInt32 >>> ((2 : Int32) &&& 31).toUInt32).toInt32) &&& (3 : Int32))), .val (.int rb), .val (.ref b41), .val (.ref b43), .unset] [])) _
                refine XS.iconst X44.here hx rfl (hb hby at_152) ?_
                show Steps p.tables e below (T44.setTop (mkF m 153 #[.val (.int x0), .val (.int x1), .val (.int x2), .val (.int ea), .val (.int eb), .val (.int (((x0.toUInt32 >>> ((2 : Int32) &&& 31).toUInt32).toInt32) &&& (3 : Int32))), .val (.int rb), .val (.ref b41), .val (.ref b43), .unset] [(.int (1 : Int32))])) _
                refine XS.goto X44.here hx rfl (pc0 := 153) (pc' := 157) rfl (hb hby at_153) (by decide) (by decide) ?_
                show Steps p.tables e below (T44.setTop (mkF m 157 #[.val (.int x0), .val (.int x1), .val (.int x2), .val (.int ea), .val (.int eb), .val (.int (((x0.toUInt32 >>> ((2 : Int32) &&& 31).toUInt32).toInt32) &&& (3 : Int32))), .val (.int rb), .val (.ref b41), .val (.ref b43), .unset] [(.int (1 : Int32))])) _
                refine XS.istore X44.here hx rfl (hb hby at_157) rfl (l' := #[.val (.int x0), .val (.int x1), .val (.int x2), .val (.int ea), .val (.int eb), .val (.int (((x0.toUInt32 >>> ((2 : Int32) &&& 31).toUInt32).toInt32) &&& (3 : Int32))), .val (.int rb), .val (.ref b41), .val (.ref b43), .val (.int (1 : Int32))]) rfl ?_
                show Steps p.tables e below (T44.setTop (mkF m 159 #[.val (.int x0), .val (.int x1), .val (.int x2), .val (.int ea), .val (.int eb), .val (.int (((x0.toUInt32 >>> ((2 : Int32) &&& 31).toUInt32).toInt32) &&& (3 : Int32))), .val (.int rb), .val (.ref b41), .val (.ref b43), .val (.int (1 : Int32))] [])) _
                refine XS.aload X44.here hx rfl (hb hby at_159) rfl rfl ?_
                show Steps p.tables e below (T44.setTop (mkF m 161 #[.val (.int x0), .val (.int x1), .val (.int x2), .val (.int ea), .val (.int eb), .val (.int (((x0.toUInt32 >>> ((2 : Int32) &&& 31).toUInt32).toInt32) &&& (3 : Int32))), .val (.int rb), .val (.ref b41), .val (.ref b43), .val (.int (1 : Int32))] [(.ref b41)])) _
                refine XS.aload X44.here hx rfl (hb hby at_161) rfl rfl ?_
                show Steps p.tables e below (T44.setTop (mkF m 163 #[.val (.int x0), .val (.int x1), .val (.int x2), .val (.int ea), .val (.int eb), .val (.int (((x0.toUInt32 >>> ((2 : Int32) &&& 31).toUInt32).toInt32) &&& (3 : Int32))), .val (.int rb), .val (.ref b41), .val (.ref b43), .val (.int (1 : Int32))] [(.ref b43), (.ref b41)])) _
                refine st62.trans ?_
                show Steps p.tables e below (T62.setTop (mkF m 166 #[.val (.int x0), .val (.int x1), .val (.int x2), .val (.int ea), .val (.int eb), .val (.int (((x0.toUInt32 >>> ((2 : Int32) &&& 31).toUInt32).toInt32) &&& (3 : Int32))), .val (.int rb), .val (.ref b41), .val (.ref b43), .val (.int (1 : Int32))] [(.int (1 : Int32))])) _
                refine XS.iload X62.here hx rfl (hb hby at_166) rfl ?_
                show Steps p.tables e below (T62.setTop (mkF m 168 #[.val (.int x0), .val (.int x1), .val (.int x2), .val (.int ea), .val (.int eb), .val (.int (((x0.toUInt32 >>> ((2 : Int32) &&& 31).toUInt32).toInt32) &&& (3 : Int32))), .val (.int rb), .val (.ref b41), .val (.ref b43), .val (.int (1 : Int32))] [(.int (1 : Int32)), (.int (1 : Int32))])) _
                refine XS.icmpNo X62.here hx rfl (hb hby at_168) rfl (teq (by decide : (1 : Int32) = (1 : Int32))).2 ?_
                show Steps p.tables e below (T62.setTop (mkF m 171 #[.val (.int x0), .val (.int x1), .val (.int x2), .val (.int ea), .val (.int eb), .val (.int (((x0.toUInt32 >>> ((2 : Int32) &&& 31).toUInt32).toInt32) &&& (3 : Int32))), .val (.int rb), .val (.ref b41), .val (.ref b43), .val (.int (1 : Int32))] [])) _
                refine XS.aload X62.here hx rfl (hb hby at_171) rfl rfl ?_
                show Steps p.tables e below (T62.setTop (mkF m 173 #[.val (.int x0), .val (.int x1), .val (.int x2), .val (.int ea), .val (.int eb), .val (.int (((x0.toUInt32 >>> ((2 : Int32) &&& 31).toUInt32).toInt32) &&& (3 : Int32))), .val (.int rb), .val (.ref b41), .val (.ref b43), .val (.int (1 : Int32))] [(.ref b43)])) _
                refine XS.aload X62.here hx rfl (hb hby at_173) rfl rfl ?_
                show Steps p.tables e below (T62.setTop (mkF m 175 #[.val (.int x0), .val (.int x1), .val (.int x2), .val (.int ea), .val (.int eb), .val (.int (((x0.toUInt32 >>> ((2 : Int32) &&& 31).toUInt32).toInt32) &&& (3 : Int32))), .val (.int rb), .val (.ref b41), .val (.ref b43), .val (.int (1 : Int32))] [(.ref b41), (.ref b43)])) _
                refine st63.trans ?_
                show Steps p.tables e below (T63.setTop (mkF m 178 #[.val (.int x0), .val (.int x1), .val (.int x2), .val (.int ea), .val (.int eb), .val (.int (((x0.toUInt32 >>> ((2 : Int32) &&& 31).toUInt32).toInt32) &&& (3 : Int32))), .val (.int rb), .val (.ref b41), .val (.ref b43), .val (.int (1 : Int32))] [(.int (1 : Int32))])) _
                refine XS.iload X63.here hx rfl (hb hby at_178) rfl ?_
                show Steps p.tables e below (T63.setTop (mkF m 180 #[.val (.int x0), .val (.int x1), .val (.int x2), .val (.int ea), .val (.int eb), .val (.int (((x0.toUInt32 >>> ((2 : Int32) &&& 31).toUInt32).toInt32) &&& (3 : Int32))), .val (.int rb), .val (.ref b41), .val (.ref b43), .val (.int (1 : Int32))] [(.int (1 : Int32)), (.int (1 : Int32))])) _
                refine XS.icmpNo X63.here hx rfl (hb hby at_180) rfl (teq (by decide : (1 : Int32) = (1 : Int32))).2 ?_
                show Steps p.tables e below (T63.setTop (mkF m 183 #[.val (.int x0), .val (.int x1), .val (.int x2), .val (.int ea), .val (.int eb), .val (.int (((x0.toUInt32 >>> ((2 : Int32) &&& 31).toUInt32).toInt32) &&& (3 : Int32))), .val (.int rb), .val (.ref b41), .val (.ref b43), .val (.int (1 : Int32))] [])) _
                refine XS.iconst X63.here hx rfl (hb hby at_183) ?_
                show Steps p.tables e below (T63.setTop (mkF m 184 #[.val (.int x0), .val (.int x1), .val (.int x2), .val (.int ea), .val (.int eb), .val (.int (((x0.toUInt32 >>> ((2 : Int32) &&& 31).toUInt32).toInt32) &&& (3 : Int32))), .val (.int rb), .val (.ref b41), .val (.ref b43), .val (.int (1 : Int32))] [(.int (1 : Int32))])) _
                refine XS.goto X63.here hx rfl (pc0 := 184) (pc' := 188) rfl (hb hby at_184) (by decide) (by decide) ?_
                show Steps p.tables e below (T63.setTop (mkF m 188 #[.val (.int x0), .val (.int x1), .val (.int x2), .val (.int ea), .val (.int eb), .val (.int (((x0.toUInt32 >>> ((2 : Int32) &&& 31).toUInt32).toInt32) &&& (3 : Int32))), .val (.int rb), .val (.ref b41), .val (.ref b43), .val (.int (1 : Int32))] [(.int (1 : Int32))])) _
                exact retN X63 hx (t := .boolean) Bd.returns (by simp) (hb hby at_188) hr
              · show Q_0 Z x0 x1 x2 ea eb rb cl ca h0 n0 _ T63.heap _
                rw [e63q]
                exact ⟨rfl, N63⟩
            · skip
              obtain ⟨cq64, kq64, q64a, q64b, q64c⟩ := isOf hZ rfl ((E42q.ext E43).keep K44q)
              obtain ⟨_, _, ⟨T64, L64, k64, n64⟩, -, X64, ⟨Lc64, hQ64, l64, y64, z64⟩, st64⟩ := X44.virtualBack hx (y := (⟨"com/example/gated_chorus/gatedchorus/gate/Standing", "equals", "(Ljava/lang/Object;)Z"⟩ : MethodName)) (z := (⟨"com/example/gated_chorus/gatedchorus/gate/Standing", "equals", "(Ljava/lang/Object;)Z"⟩ : MethodName)) hown (mvT hZ (hw _ (List.mem_of_getElem? (i := 13) rfl))) (mvT hZ (hw _ (List.mem_of_getElem? (i := 14) rfl))) (notFace_of_selects (args := #[]) (mvT hZ (hw _ (List.mem_of_getElem? (i := 16) rfl)))) (mvT hZ (hw _ (List.mem_of_getElem? (i := 16) rfl))) (mvT hZ (hw _ (List.mem_of_getElem? (i := 15) rfl))) (by decide) (backOf (W := 0) (rm_3s l Z a0 hw [] b41 b43 ea x1 eb rb (0 : Int32) T44.heap n0 Z44 E44q ((Fe42q.ext E43).keep K44q (ninS (Nat.ne_of_lt (Nat.lt_of_lt_of_le E42q.lt (Nat.le_of_eq g43.symm))) nin0)) ((Fr42q.ext E43).keep K44q (ninS (Nat.ne_of_lt (Nat.lt_of_lt_of_le E42q.lt (Nat.le_of_eq g43.symm))) nin0)) Fe44q Fr44q heb (by unfold own_eq; rw [if_pos hc57, if_pos hc59, if_neg hc61])) hZ (hw _ (List.mem_of_getElem? (i := 17) rfl)) (hw _ (List.mem_of_getElem? (i := 2) rfl)) (by decide) (by decide)) q64a q64c (g := (mkF m 163 #[.val (.int x0), .val (.int x1), .val (.int x2), .val (.int ea), .val (.int eb), .val (.int (((x0.toUInt32 >>> ((2 : Int32) &&& 31).toUInt32).toInt32) &&& (3 : Int32))), .val (.int rb), .val (.ref b41), .val (.ref b43), .val (.int (0 : Int32))] [(.ref b43), (.ref b41)])) rfl (by rw [hml]; rfl) (Steps.refl _) (argsL := [(.ref b43)]) (rest := []) (lenOf pd__Ljava_lang_Object__Z rfl) rfl (by show 2 * 0 + _ ≤ _; exact Nat.le_of_eq rfl) (hb hby at_163) (fun _ _ => ⟨rfl, rfl, (by decide : 2 + 0 ≤ _), (by decide : 4 + 0 ≤ _)⟩)
              dsimp only [Pt.U, Pt.locs, Pt.cells, Pt.slots] at X64 l64 y64 z64 st64 hQ64
              subst l64 y64 z64
              obtain ⟨rfl, N64q, e64q⟩ := hQ64
              have N64 := Fr.app N44 N64q
              obtain ⟨cq65, kq65, q65a, q65b, q65c⟩ := isOf hZ e64q E44q
              obtain ⟨_, _, ⟨T65, L65, k65, n65⟩, -, X65, ⟨Lc65, hQ65, l65, y65, z65⟩, st65⟩ := X64.virtualBack hx (y := (⟨"com/example/gated_chorus/gatedchorus/gate/Standing", "equals", "(Ljava/lang/Object;)Z"⟩ : MethodName)) (z := (⟨"com/example/gated_chorus/gatedchorus/gate/Standing", "equals", "(Ljava/lang/Object;)Z"⟩ : MethodName)) hown (mvT hZ (hw _ (List.mem_of_getElem? (i := 13) rfl))) (mvT hZ (hw _ (List.mem_of_getElem? (i := 14) rfl))) (notFace_of_selects (args := #[]) (mvT hZ (hw _ (List.mem_of_getElem? (i := 16) rfl)))) (mvT hZ (hw _ (List.mem_of_getElem? (i := 16) rfl))) (mvT hZ (hw _ (List.mem_of_getElem? (i := 15) rfl))) (by decide) (backOf (W := 0) (rm_3s l Z a0 hw [] b43 b41 eb rb ea x1 (0 : Int32) T44.heap n0 Z44 ((E42q.ext E43).keep K44q) Fe44q Fr44q ((Fe42q.ext E43).keep K44q (ninS (Nat.ne_of_lt (Nat.lt_of_lt_of_le E42q.lt (Nat.le_of_eq g43.symm))) nin0)) ((Fr42q.ext E43).keep K44q (ninS (Nat.ne_of_lt (Nat.lt_of_lt_of_le E42q.lt (Nat.le_of_eq g43.symm))) nin0)) hea (by unfold own_eq; rw [if_pos hc59, if_pos hc57, if_neg (Ne.symm hc61)])) hZ (hw _ (List.mem_of_getElem? (i := 17) rfl)) (hw _ (List.mem_of_getElem? (i := 2) rfl)) (by decide) (by decide)) q65a q65c (g := (mkF m 175 #[.val (.int x0), .val (.int x1), .val (.int x2), .val (.int ea), .val (.int eb), .val (.int (((x0.toUInt32 >>> ((2 : Int32) &&& 31).toUInt32).toInt32) &&& (3 : Int32))), .val (.int rb), .val (.ref b41), .val (.ref b43), .val (.int (0 : Int32))] [(.ref b41), (.ref b43)])) rfl (by rw [hml]; rfl) (Steps.refl _) (argsL := [(.ref b41)]) (rest := []) (lenOf pd__Ljava_lang_Object__Z rfl) rfl (by show 2 * 0 + _ ≤ _; exact Nat.le_of_eq rfl) (hb hby at_175) (fun _ _ => ⟨rfl, e64q, (by decide : 2 + 0 ≤ _), (by decide : 4 + 0 ≤ _)⟩)
              dsimp only [Pt.U, Pt.locs, Pt.cells, Pt.slots] at X65 l65 y65 z65 st65 hQ65
              subst l65 y65 z65
              obtain ⟨rfl, N65q, e65q⟩ := hQ65
              have N65 := Fr.app N64 N65q
              obtain ⟨fs, hr, hrun, hended, hW, hsame⟩ := X65.leave (v := some (.int (1 : Int32))) (fun h => by rw [Bd.returns] at h; cases h)
              refine ⟨_, _, pw60 _ ?_, hrun, hended, _, _, rfl, ?_, ⟨_, rfl⟩, hW, hsame.mono (by decide) (by decide)⟩
              · skip
                refine XS.icmpYes X44.here hx rfl (pc0 := 149) (pc' := 156) rfl (hb hby at_149) rfl (feq hc61).2 (by decide) (by decide) ?_
                show Steps p.tables e below (T44.setTop (mkF m 156 #[.val (.int x0), .val (.int x1), .val (.int x2), .val (.int ea), .val (.int eb), .val (.int (((x0.toUInt32 >>> ((2 : Int32) &&& 31).toUInt32).toInt32) &&& (3 : Int32))), .val (.int rb), .val (.ref b41), .val (.ref b43), .unset] [])) _
                refine XS.iconst X44.here hx rfl (hb hby at_156) ?_
                show Steps p.tables e below (T44.setTop (mkF m 157 #[.val (.int x0), .val (.int x1), .val (.int x2), .val (.int ea), .val (.int eb), .val (.int (((x0.toUInt32 >>> ((2 : Int32) &&& 31).toUInt32).toInt32) &&& (3 : Int32))), .val (.int rb), .val (.ref b41), .val (.ref b43), .unset] [(.int (0 : Int32))])) _
                refine XS.istore X44.here hx rfl (hb hby at_157) rfl (l' := #[.val (.int x0), .val (.int x1), .val (.int x2), .val (.int ea), .val (.int eb), .val (.int (((x0.toUInt32 >>> ((2 : Int32) &&& 31).toUInt32).toInt32) &&& (3 : Int32))), .val (.int rb), .val (.ref b41), .val (.ref b43), .val (.int (0 : Int32))]) rfl ?_
                show Steps p.tables e below (T44.setTop (mkF m 159 #[.val (.int x0), .val (.int x1), .val (.int x2), .val (.int ea), .val (.int eb), .val (.int (((x0.toUInt32 >>> ((2 : Int32) &&& 31).toUInt32).toInt32) &&& (3 : Int32))), .val (.int rb), .val (.ref b41), .val (.ref b43), .val (.int (0 : Int32))] [])) _
                refine XS.aload X44.here hx rfl (hb hby at_159) rfl rfl ?_
                show Steps p.tables e below (T44.setTop (mkF m 161 #[.val (.int x0), .val (.int x1), .val (.int x2), .val (.int ea), .val (.int eb), .val (.int (((x0.toUInt32 >>> ((2 : Int32) &&& 31).toUInt32).toInt32) &&& (3 : Int32))), .val (.int rb), .val (.ref b41), .val (.ref b43), .val (.int (0 : Int32))] [(.ref b41)])) _
                refine XS.aload X44.here hx rfl (hb hby at_161) rfl rfl ?_
                show Steps p.tables e below (T44.setTop (mkF m 163 #[.val (.int x0), .val (.int x1), .val (.int x2), .val (.int ea), .val (.int eb), .val (.int (((x0.toUInt32 >>> ((2 : Int32) &&& 31).toUInt32).toInt32) &&& (3 : Int32))), .val (.int rb), .val (.ref b41), .val (.ref b43), .val (.int (0 : Int32))] [(.ref b43), (.ref b41)])) _
                refine st64.trans ?_
                show Steps p.tables e below (T64.setTop (mkF m 166 #[.val (.int x0), .val (.int x1), .val (.int x2), .val (.int ea), .val (.int eb), .val (.int (((x0.toUInt32 >>> ((2 : Int32) &&& 31).toUInt32).toInt32) &&& (3 : Int32))), .val (.int rb), .val (.ref b41), .val (.ref b43), .val (.int (0 : Int32))] [(.int (0 : Int32))])) _
                refine XS.iload X64.here hx rfl (hb hby at_166) rfl ?_
                show Steps p.tables e below (T64.setTop (mkF m 168 #[.val (.int x0), .val (.int x1), .val (.int x2), .val (.int ea), .val (.int eb), .val (.int (((x0.toUInt32 >>> ((2 : Int32) &&& 31).toUInt32).toInt32) &&& (3 : Int32))), .val (.int rb), .val (.ref b41), .val (.ref b43), .val (.int (0 : Int32))] [(.int (0 : Int32)), (.int (0 : Int32))])) _
                refine XS.icmpNo X64.here hx rfl (hb hby at_168) rfl (teq (by decide : (0 : Int32) = (0 : Int32))).2 ?_
                show Steps p.tables e below (T64.setTop (mkF m 171 #[.val (.int x0), .val (.int x1), .val (.int x2), .val (.int ea), .val (.int eb), .val (.int (((x0.toUInt32 >>> ((2 : Int32) &&& 31).toUInt32).toInt32) &&& (3 : Int32))), .val (.int rb), .val (.ref b41), .val (.ref b43), .val (.int (0 : Int32))] [])) _
                refine XS.aload X64.here hx rfl (hb hby at_171) rfl rfl ?_
                show Steps p.tables e below (T64.setTop (mkF m 173 #[.val (.int x0), .val (.int x1), .val (.int x2), .val (.int ea), .val (.int eb), .val (.int (((x0.toUInt32 >>> ((2 : Int32) &&& 31).toUInt32).toInt32) &&& (3 : Int32))), .val (.int rb), .val (.ref b41), .val (.ref b43), .val (.int (0 : Int32))] [(.ref b43)])) _
                refine XS.aload X64.here hx rfl (hb hby at_173) rfl rfl ?_
                show Steps p.tables e below (T64.setTop (mkF m 175 #[.val (.int x0), .val (.int x1), .val (.int x2), .val (.int ea), .val (.int eb), .val (.int (((x0.toUInt32 >>> ((2 : Int32) &&& 31).toUInt32).toInt32) &&& (3 : Int32))), .val (.int rb), .val (.ref b41), .val (.ref b43), .val (.int (0 : Int32))] [(.ref b41), (.ref b43)])) _
                refine st65.trans ?_
                show Steps p.tables e below (T65.setTop (mkF m 178 #[.val (.int x0), .val (.int x1), .val (.int x2), .val (.int ea), .val (.int eb), .val (.int (((x0.toUInt32 >>> ((2 : Int32) &&& 31).toUInt32).toInt32) &&& (3 : Int32))), .val (.int rb), .val (.ref b41), .val (.ref b43), .val (.int (0 : Int32))] [(.int (0 : Int32))])) _
                refine XS.iload X65.here hx rfl (hb hby at_178) rfl ?_
                show Steps p.tables e below (T65.setTop (mkF m 180 #[.val (.int x0), .val (.int x1), .val (.int x2), .val (.int ea), .val (.int eb), .val (.int (((x0.toUInt32 >>> ((2 : Int32) &&& 31).toUInt32).toInt32) &&& (3 : Int32))), .val (.int rb), .val (.ref b41), .val (.ref b43), .val (.int (0 : Int32))] [(.int (0 : Int32)), (.int (0 : Int32))])) _
                refine XS.icmpNo X65.here hx rfl (hb hby at_180) rfl (teq (by decide : (0 : Int32) = (0 : Int32))).2 ?_
                show Steps p.tables e below (T65.setTop (mkF m 183 #[.val (.int x0), .val (.int x1), .val (.int x2), .val (.int ea), .val (.int eb), .val (.int (((x0.toUInt32 >>> ((2 : Int32) &&& 31).toUInt32).toInt32) &&& (3 : Int32))), .val (.int rb), .val (.ref b41), .val (.ref b43), .val (.int (0 : Int32))] [])) _
                refine XS.iconst X65.here hx rfl (hb hby at_183) ?_
                show Steps p.tables e below (T65.setTop (mkF m 184 #[.val (.int x0), .val (.int x1), .val (.int x2), .val (.int ea), .val (.int eb), .val (.int (((x0.toUInt32 >>> ((2 : Int32) &&& 31).toUInt32).toInt32) &&& (3 : Int32))), .val (.int rb), .val (.ref b41), .val (.ref b43), .val (.int (0 : Int32))] [(.int (1 : Int32))])) _
                refine XS.goto X65.here hx rfl (pc0 := 184) (pc' := 188) rfl (hb hby at_184) (by decide) (by decide) ?_
                show Steps p.tables e below (T65.setTop (mkF m 188 #[.val (.int x0), .val (.int x1), .val (.int x2), .val (.int ea), .val (.int eb), .val (.int (((x0.toUInt32 >>> ((2 : Int32) &&& 31).toUInt32).toInt32) &&& (3 : Int32))), .val (.int rb), .val (.ref b41), .val (.ref b43), .val (.int (0 : Int32))] [(.int (1 : Int32))])) _
                exact retN X65 hx (t := .boolean) Bd.returns (by simp) (hb hby at_188) hr
              · show Q_0 Z x0 x1 x2 ea eb rb cl ca h0 n0 _ T65.heap _
                rw [e65q]
                exact ⟨rfl, N65⟩
          · skip
            obtain ⟨cq66, kq66, q66a, q66b, q66c⟩ := isOf hZ rfl ((E42q.ext E43).keep K44q)
            obtain ⟨_, _, ⟨T66, L66, k66, n66⟩, -, X66, ⟨Lc66, hQ66, l66, y66, z66⟩, st66⟩ := X44.virtualBack hx (y := (⟨"com/example/gated_chorus/gatedchorus/gate/Standing", "equals", "(Ljava/lang/Object;)Z"⟩ : MethodName)) (z := (⟨"com/example/gated_chorus/gatedchorus/gate/Standing", "equals", "(Ljava/lang/Object;)Z"⟩ : MethodName)) hown (mvT hZ (hw _ (List.mem_of_getElem? (i := 13) rfl))) (mvT hZ (hw _ (List.mem_of_getElem? (i := 14) rfl))) (notFace_of_selects (args := #[]) (mvT hZ (hw _ (List.mem_of_getElem? (i := 16) rfl)))) (mvT hZ (hw _ (List.mem_of_getElem? (i := 16) rfl))) (mvT hZ (hw _ (List.mem_of_getElem? (i := 15) rfl))) (by decide) (backOf (W := 0) (rm_3s l Z a0 hw [] b41 b43 ea x1 eb rb (0 : Int32) T44.heap n0 Z44 E44q ((Fe42q.ext E43).keep K44q (ninS (Nat.ne_of_lt (Nat.lt_of_lt_of_le E42q.lt (Nat.le_of_eq g43.symm))) nin0)) ((Fr42q.ext E43).keep K44q (ninS (Nat.ne_of_lt (Nat.lt_of_lt_of_le E42q.lt (Nat.le_of_eq g43.symm))) nin0)) Fe44q Fr44q heb (by unfold own_eq; rw [if_pos hc57, if_neg hc59])) hZ (hw _ (List.mem_of_getElem? (i := 17) rfl)) (hw _ (List.mem_of_getElem? (i := 2) rfl)) (by decide) (by decide)) q66a q66c (g := (mkF m 163 #[.val (.int x0), .val (.int x1), .val (.int x2), .val (.int ea), .val (.int eb), .val (.int (((x0.toUInt32 >>> ((2 : Int32) &&& 31).toUInt32).toInt32) &&& (3 : Int32))), .val (.int rb), .val (.ref b41), .val (.ref b43), .val (.int (0 : Int32))] [(.ref b43), (.ref b41)])) rfl (by rw [hml]; rfl) (Steps.refl _) (argsL := [(.ref b43)]) (rest := []) (lenOf pd__Ljava_lang_Object__Z rfl) rfl (by show 2 * 0 + _ ≤ _; exact Nat.le_of_eq rfl) (hb hby at_163) (fun _ _ => ⟨rfl, rfl, (by decide : 2 + 0 ≤ _), (by decide : 4 + 0 ≤ _)⟩)
            dsimp only [Pt.U, Pt.locs, Pt.cells, Pt.slots] at X66 l66 y66 z66 st66 hQ66
            subst l66 y66 z66
            obtain ⟨rfl, N66q, e66q⟩ := hQ66
            have N66 := Fr.app N44 N66q
            obtain ⟨cq67, kq67, q67a, q67b, q67c⟩ := isOf hZ e66q E44q
            obtain ⟨_, _, ⟨T67, L67, k67, n67⟩, -, X67, ⟨Lc67, hQ67, l67, y67, z67⟩, st67⟩ := X66.virtualBack hx (y := (⟨"com/example/gated_chorus/gatedchorus/gate/Standing", "equals", "(Ljava/lang/Object;)Z"⟩ : MethodName)) (z := (⟨"com/example/gated_chorus/gatedchorus/gate/Standing", "equals", "(Ljava/lang/Object;)Z"⟩ : MethodName)) hown (mvT hZ (hw _ (List.mem_of_getElem? (i := 13) rfl))) (mvT hZ (hw _ (List.mem_of_getElem? (i := 14) rfl))) (notFace_of_selects (args := #[]) (mvT hZ (hw _ (List.mem_of_getElem? (i := 16) rfl)))) (mvT hZ (hw _ (List.mem_of_getElem? (i := 16) rfl))) (mvT hZ (hw _ (List.mem_of_getElem? (i := 15) rfl))) (by decide) (backOf (W := 0) (rm_3s l Z a0 hw [] b43 b41 eb rb ea x1 (0 : Int32) T44.heap n0 Z44 ((E42q.ext E43).keep K44q) Fe44q Fr44q ((Fe42q.ext E43).keep K44q (ninS (Nat.ne_of_lt (Nat.lt_of_lt_of_le E42q.lt (Nat.le_of_eq g43.symm))) nin0)) ((Fr42q.ext E43).keep K44q (ninS (Nat.ne_of_lt (Nat.lt_of_lt_of_le E42q.lt (Nat.le_of_eq g43.symm))) nin0)) hea (by unfold own_eq; rw [if_neg hc59, hc57])) hZ (hw _ (List.mem_of_getElem? (i := 17) rfl)) (hw _ (List.mem_of_getElem? (i := 2) rfl)) (by decide) (by decide)) q67a q67c (g := (mkF m 175 #[.val (.int x0), .val (.int x1), .val (.int x2), .val (.int ea), .val (.int eb), .val (.int (((x0.toUInt32 >>> ((2 : Int32) &&& 31).toUInt32).toInt32) &&& (3 : Int32))), .val (.int rb), .val (.ref b41), .val (.ref b43), .val (.int (0 : Int32))] [(.ref b41), (.ref b43)])) rfl (by rw [hml]; rfl) (Steps.refl _) (argsL := [(.ref b41)]) (rest := []) (lenOf pd__Ljava_lang_Object__Z rfl) rfl (by show 2 * 0 + _ ≤ _; exact Nat.le_of_eq rfl) (hb hby at_175) (fun _ _ => ⟨rfl, e66q, (by decide : 2 + 0 ≤ _), (by decide : 4 + 0 ≤ _)⟩)
            dsimp only [Pt.U, Pt.locs, Pt.cells, Pt.slots] at X67 l67 y67 z67 st67 hQ67
            subst l67 y67 z67
            obtain ⟨rfl, N67q, e67q⟩ := hQ67
            have N67 := Fr.app N66 N67q
            obtain ⟨fs, hr, hrun, hended, hW, hsame⟩ := X67.leave (v := some (.int (1 : Int32))) (fun h => by rw [Bd.returns] at h; cases h)
            refine ⟨_, _, pw58 _ ?_, hrun, hended, _, _, rfl, ?_, ⟨_, rfl⟩, hW, hsame.mono (by decide) (by decide)⟩
            · skip
              refine XS.ifYes X44.here hx rfl (pc0 := 143) (pc' := 156) rfl (hb hby at_143) rfl ((if0 _ _).trans (feq hc59).2) (by decide) (by decide) ?_
              show Steps p.tables e below (T44.setTop (mkF m 156 #[.val (.int x0), .val (.int x1), .val (.int x2), .val (.int ea), .val (.int eb), .val (.int (((x0.toUInt32 >>> ((2 : Int32) &&& 31).toUInt32).toInt32) &&& (3 : Int32))), .val (.int rb), .val (.ref b41), .val (.ref b43), .unset] [])) _
              refine XS.iconst X44.here hx rfl (hb hby at_156) ?_
              show Steps p.tables e below (T44.setTop (mkF m 157 #[.val (.int x0), .val (.int x1), .val (.int x2), .val (.int ea), .val (.int eb), .val (.int (((x0.toUInt32 >>> ((2 : Int32) &&& 31).toUInt32).toInt32) &&& (3 : Int32))), .val (.int rb), .val (.ref b41), .val (.ref b43), .unset] [(.int (0 : Int32))])) _
              refine XS.istore X44.here hx rfl (hb hby at_157) rfl (l' := #[.val (.int x0), .val (.int x1), .val (.int x2), .val (.int ea), .val (.int eb), .val (.int (((x0.toUInt32 >>> ((2 : Int32) &&& 31).toUInt32).toInt32) &&& (3 : Int32))), .val (.int rb), .val (.ref b41), .val (.ref b43), .val (.int (0 : Int32))]) rfl ?_
              show Steps p.tables e below (T44.setTop (mkF m 159 #[.val (.int x0), .val (.int x1), .val (.int x2), .val (.int ea), .val (.int eb), .val (.int (((x0.toUInt32 >>> ((2 : Int32) &&& 31).toUInt32).toInt32) &&& (3 : Int32))), .val (.int rb), .val (.ref b41), .val (.ref b43), .val (.int (0 : Int32))] [])) _
              refine XS.aload X44.here hx rfl (hb hby at_159) rfl rfl ?_
              show Steps p.tables e below (T44.setTop (mkF m 161 #[.val (.int x0), .val (.int x1), .val (.int x2), .val (.int ea), .val (.int eb), .val (.int (((x0.toUInt32 >>> ((2 : Int32) &&& 31).toUInt32).toInt32) &&& (3 : Int32))), .val (.int rb), .val (.ref b41), .val (.ref b43), .val (.int (0 : Int32))] [(.ref b41)])) _
              refine XS.aload X44.here hx rfl (hb hby at_161) rfl rfl ?_
              show Steps p.tables e below (T44.setTop (mkF m 163 #[.val (.int x0), .val (.int x1), .val (.int x2), .val (.int ea), .val (.int eb), .val (.int (((x0.toUInt32 >>> ((2 : Int32) &&& 31).toUInt32).toInt32) &&& (3 : Int32))), .val (.int rb), .val (.ref b41), .val (.ref b43), .val (.int (0 : Int32))] [(.ref b43), (.ref b41)])) _
              refine st66.trans ?_
              show Steps p.tables e below (T66.setTop (mkF m 166 #[.val (.int x0), .val (.int x1), .val (.int x2), .val (.int ea), .val (.int eb), .val (.int (((x0.toUInt32 >>> ((2 : Int32) &&& 31).toUInt32).toInt32) &&& (3 : Int32))), .val (.int rb), .val (.ref b41), .val (.ref b43), .val (.int (0 : Int32))] [(.int (0 : Int32))])) _
              refine XS.iload X66.here hx rfl (hb hby at_166) rfl ?_
              show Steps p.tables e below (T66.setTop (mkF m 168 #[.val (.int x0), .val (.int x1), .val (.int x2), .val (.int ea), .val (.int eb), .val (.int (((x0.toUInt32 >>> ((2 : Int32) &&& 31).toUInt32).toInt32) &&& (3 : Int32))), .val (.int rb), .val (.ref b41), .val (.ref b43), .val (.int (0 : Int32))] [(.int (0 : Int32)), (.int (0 : Int32))])) _
              refine XS.icmpNo X66.here hx rfl (hb hby at_168) rfl (teq (by decide : (0 : Int32) = (0 : Int32))).2 ?_
              show Steps p.tables e below (T66.setTop (mkF m 171 #[.val (.int x0), .val (.int x1), .val (.int x2), .val (.int ea), .val (.int eb), .val (.int (((x0.toUInt32 >>> ((2 : Int32) &&& 31).toUInt32).toInt32) &&& (3 : Int32))), .val (.int rb), .val (.ref b41), .val (.ref b43), .val (.int (0 : Int32))] [])) _
              refine XS.aload X66.here hx rfl (hb hby at_171) rfl rfl ?_
              show Steps p.tables e below (T66.setTop (mkF m 173 #[.val (.int x0), .val (.int x1), .val (.int x2), .val (.int ea), .val (.int eb), .val (.int (((x0.toUInt32 >>> ((2 : Int32) &&& 31).toUInt32).toInt32) &&& (3 : Int32))), .val (.int rb), .val (.ref b41), .val (.ref b43), .val (.int (0 : Int32))] [(.ref b43)])) _
              refine XS.aload X66.here hx rfl (hb hby at_173) rfl rfl ?_
              show Steps p.tables e below (T66.setTop (mkF m 175 #[.val (.int x0), .val (.int x1), .val (.int x2), .val (.int ea), .val (.int eb), .val (.int (((x0.toUInt32 >>> ((2 : Int32) &&& 31).toUInt32).toInt32) &&& (3 : Int32))), .val (.int rb), .val (.ref b41), .val (.ref b43), .val (.int (0 : Int32))] [(.ref b41), (.ref b43)])) _
              refine st67.trans ?_
              show Steps p.tables e below (T67.setTop (mkF m 178 #[.val (.int x0), .val (.int x1), .val (.int x2), .val (.int ea), .val (.int eb), .val (.int (((x0.toUInt32 >>> ((2 : Int32) &&& 31).toUInt32).toInt32) &&& (3 : Int32))), .val (.int rb), .val (.ref b41), .val (.ref b43), .val (.int (0 : Int32))] [(.int (0 : Int32))])) _
              refine XS.iload X67.here hx rfl (hb hby at_178) rfl ?_
              show Steps p.tables e below (T67.setTop (mkF m 180 #[.val (.int x0), .val (.int x1), .val (.int x2), .val (.int ea), .val (.int eb), .val (.int (((x0.toUInt32 >>> ((2 : Int32) &&& 31).toUInt32).toInt32) &&& (3 : Int32))), .val (.int rb), .val (.ref b41), .val (.ref b43), .val (.int (0 : Int32))] [(.int (0 : Int32)), (.int (0 : Int32))])) _
              refine XS.icmpNo X67.here hx rfl (hb hby at_180) rfl (teq (by decide : (0 : Int32) = (0 : Int32))).2 ?_
              show Steps p.tables e below (T67.setTop (mkF m 183 #[.val (.int x0), .val (.int x1), .val (.int x2), .val (.int ea), .val (.int eb), .val (.int (((x0.toUInt32 >>> ((2 : Int32) &&& 31).toUInt32).toInt32) &&& (3 : Int32))), .val (.int rb), .val (.ref b41), .val (.ref b43), .val (.int (0 : Int32))] [])) _
              refine XS.iconst X67.here hx rfl (hb hby at_183) ?_
              show Steps p.tables e below (T67.setTop (mkF m 184 #[.val (.int x0), .val (.int x1), .val (.int x2), .val (.int ea), .val (.int eb), .val (.int (((x0.toUInt32 >>> ((2 : Int32) &&& 31).toUInt32).toInt32) &&& (3 : Int32))), .val (.int rb), .val (.ref b41), .val (.ref b43), .val (.int (0 : Int32))] [(.int (1 : Int32))])) _
              refine XS.goto X67.here hx rfl (pc0 := 184) (pc' := 188) rfl (hb hby at_184) (by decide) (by decide) ?_
              show Steps p.tables e below (T67.setTop (mkF m 188 #[.val (.int x0), .val (.int x1), .val (.int x2), .val (.int ea), .val (.int eb), .val (.int (((x0.toUInt32 >>> ((2 : Int32) &&& 31).toUInt32).toInt32) &&& (3 : Int32))), .val (.int rb), .val (.ref b41), .val (.ref b43), .val (.int (0 : Int32))] [(.int (1 : Int32))])) _
              exact retN X67 hx (t := .boolean) Bd.returns (by simp) (hb hby at_188) hr
            · show Q_0 Z x0 x1 x2 ea eb rb cl ca h0 n0 _ T67.heap _
              rw [e67q]
              exact ⟨rfl, N67⟩
        · skip
          have pw68 : ∀ t, Steps p.tables e below (T44.setTop (mkF m 134 #[.val (.int x0), .val (.int x1), .val (.int x2), .val (.int ea), .val (.int eb), .val (.int (((x0.toUInt32 >>> ((2 : Int32) &&& 31).toUInt32).toInt32) &&& (3 : Int32))), .val (.int rb), .val (.ref b41), .val (.ref b43), .unset] [(.int eb)])) t → Steps p.tables e below (s₁.setTop (entryFrame m #[(.int x0), (.int x1), (.int x2)] maxLocals)) t := by
            intro t k
            refine pw56 t ?_
            refine XS.ifNo X44.here hx rfl (hb hby at_129) rfl ((if0 _ _).trans (feq hc57).1) ?_
            show Steps p.tables e below (T44.setTop (mkF m 132 #[.val (.int x0), .val (.int x1), .val (.int x2), .val (.int ea), .val (.int eb), .val (.int (((x0.toUInt32 >>> ((2 : Int32) &&& 31).toUInt32).toInt32) &&& (3 : Int32))), .val (.int rb), .val (.ref b41), .val (.ref b43), .unset] [])) _
            refine XS.iload X44.here hx rfl (hb hby at_132) rfl ?_
            show Steps p.tables e below (T44.setTop (mkF m 134 #[.val (.int x0), .val (.int x1), .val (.int x2), .val (.int ea), .val (.int eb), .val (.int (((x0.toUInt32 >>> ((2 : Int32) &&& 31).toUInt32).toInt32) &&& (3 : Int32))), .val (.int rb), .val (.ref b41), .val (.ref b43), .unset] [(.int eb)])) _
            exact k
          by_cases hc69 : eb = (0 : Int32)
          · skip
            obtain ⟨cq70, kq70, q70a, q70b, q70c⟩ := isOf hZ rfl ((E42q.ext E43).keep K44q)
            obtain ⟨_, _, ⟨T70, L70, k70, n70⟩, -, X70, ⟨Lc70, hQ70, l70, y70, z70⟩, st70⟩ := X44.virtualBack hx (y := (⟨"com/example/gated_chorus/gatedchorus/gate/Standing", "equals", "(Ljava/lang/Object;)Z"⟩ : MethodName)) (z := (⟨"com/example/gated_chorus/gatedchorus/gate/Standing", "equals", "(Ljava/lang/Object;)Z"⟩ : MethodName)) hown (mvT hZ (hw _ (List.mem_of_getElem? (i := 13) rfl))) (mvT hZ (hw _ (List.mem_of_getElem? (i := 14) rfl))) (notFace_of_selects (args := #[]) (mvT hZ (hw _ (List.mem_of_getElem? (i := 16) rfl)))) (mvT hZ (hw _ (List.mem_of_getElem? (i := 16) rfl))) (mvT hZ (hw _ (List.mem_of_getElem? (i := 15) rfl))) (by decide) (backOf (W := 0) (rm_3s l Z a0 hw [] b41 b43 ea x1 eb rb (0 : Int32) T44.heap n0 Z44 E44q ((Fe42q.ext E43).keep K44q (ninS (Nat.ne_of_lt (Nat.lt_of_lt_of_le E42q.lt (Nat.le_of_eq g43.symm))) nin0)) ((Fr42q.ext E43).keep K44q (ninS (Nat.ne_of_lt (Nat.lt_of_lt_of_le E42q.lt (Nat.le_of_eq g43.symm))) nin0)) Fe44q Fr44q heb (by unfold own_eq; rw [if_neg hc57, hc69])) hZ (hw _ (List.mem_of_getElem? (i := 17) rfl)) (hw _ (List.mem_of_getElem? (i := 2) rfl)) (by decide) (by decide)) q70a q70c (g := (mkF m 163 #[.val (.int x0), .val (.int x1), .val (.int x2), .val (.int ea), .val (.int eb), .val (.int (((x0.toUInt32 >>> ((2 : Int32) &&& 31).toUInt32).toInt32) &&& (3 : Int32))), .val (.int rb), .val (.ref b41), .val (.ref b43), .val (.int (0 : Int32))] [(.ref b43), (.ref b41)])) rfl (by rw [hml]; rfl) (Steps.refl _) (argsL := [(.ref b43)]) (rest := []) (lenOf pd__Ljava_lang_Object__Z rfl) rfl (by show 2 * 0 + _ ≤ _; exact Nat.le_of_eq rfl) (hb hby at_163) (fun _ _ => ⟨rfl, rfl, (by decide : 2 + 0 ≤ _), (by decide : 4 + 0 ≤ _)⟩)
            dsimp only [Pt.U, Pt.locs, Pt.cells, Pt.slots] at X70 l70 y70 z70 st70 hQ70
            subst l70 y70 z70
            obtain ⟨rfl, N70q, e70q⟩ := hQ70
            have N70 := Fr.app N44 N70q
            obtain ⟨cq71, kq71, q71a, q71b, q71c⟩ := isOf hZ e70q E44q
            obtain ⟨_, _, ⟨T71, L71, k71, n71⟩, -, X71, ⟨Lc71, hQ71, l71, y71, z71⟩, st71⟩ := X70.virtualBack hx (y := (⟨"com/example/gated_chorus/gatedchorus/gate/Standing", "equals", "(Ljava/lang/Object;)Z"⟩ : MethodName)) (z := (⟨"com/example/gated_chorus/gatedchorus/gate/Standing", "equals", "(Ljava/lang/Object;)Z"⟩ : MethodName)) hown (mvT hZ (hw _ (List.mem_of_getElem? (i := 13) rfl))) (mvT hZ (hw _ (List.mem_of_getElem? (i := 14) rfl))) (notFace_of_selects (args := #[]) (mvT hZ (hw _ (List.mem_of_getElem? (i := 16) rfl)))) (mvT hZ (hw _ (List.mem_of_getElem? (i := 16) rfl))) (mvT hZ (hw _ (List.mem_of_getElem? (i := 15) rfl))) (by decide) (backOf (W := 0) (rm_3s l Z a0 hw [] b43 b41 eb rb ea x1 (0 : Int32) T44.heap n0 Z44 ((E42q.ext E43).keep K44q) Fe44q Fr44q ((Fe42q.ext E43).keep K44q (ninS (Nat.ne_of_lt (Nat.lt_of_lt_of_le E42q.lt (Nat.le_of_eq g43.symm))) nin0)) ((Fr42q.ext E43).keep K44q (ninS (Nat.ne_of_lt (Nat.lt_of_lt_of_le E42q.lt (Nat.le_of_eq g43.symm))) nin0)) hea (by unfold own_eq; rw [if_pos hc69, if_neg hc57])) hZ (hw _ (List.mem_of_getElem? (i := 17) rfl)) (hw _ (List.mem_of_getElem? (i := 2) rfl)) (by decide) (by decide)) q71a q71c (g := (mkF m 175 #[.val (.int x0), .val (.int x1), .val (.int x2), .val (.int ea), .val (.int eb), .val (.int (((x0.toUInt32 >>> ((2 : Int32) &&& 31).toUInt32).toInt32) &&& (3 : Int32))), .val (.int rb), .val (.ref b41), .val (.ref b43), .val (.int (0 : Int32))] [(.ref b41), (.ref b43)])) rfl (by rw [hml]; rfl) (Steps.refl _) (argsL := [(.ref b41)]) (rest := []) (lenOf pd__Ljava_lang_Object__Z rfl) rfl (by show 2 * 0 + _ ≤ _; exact Nat.le_of_eq rfl) (hb hby at_175) (fun _ _ => ⟨rfl, e70q, (by decide : 2 + 0 ≤ _), (by decide : 4 + 0 ≤ _)⟩)
            dsimp only [Pt.U, Pt.locs, Pt.cells, Pt.slots] at X71 l71 y71 z71 st71 hQ71
            subst l71 y71 z71
            obtain ⟨rfl, N71q, e71q⟩ := hQ71
            have N71 := Fr.app N70 N71q
            obtain ⟨fs, hr, hrun, hended, hW, hsame⟩ := X71.leave (v := some (.int (1 : Int32))) (fun h => by rw [Bd.returns] at h; cases h)
            refine ⟨_, _, pw68 _ ?_, hrun, hended, _, _, rfl, ?_, ⟨_, rfl⟩, hW, hsame.mono (by decide) (by decide)⟩
            · skip
              refine XS.ifNo X44.here hx rfl (hb hby at_134) rfl ((if0 _ _).trans (teq hc69).2) ?_
              show Steps p.tables e below (T44.setTop (mkF m 137 #[.val (.int x0), .val (.int x1), .val (.int x2), .val (.int ea), .val (.int eb), .val (.int (((x0.toUInt32 >>> ((2 : Int32) &&& 31).toUInt32).toInt32) &&& (3 : Int32))), .val (.int rb), .val (.ref b41), .val (.ref b43), .unset] [])) _
              refine XS.iloadN X44.here hx rfl (hb hby at_137) rfl ?_
              show Steps p.tables e below (T44.setTop (mkF m 138 #[.val (.int x0), .val (.int x1), .val (.int x2), .val (.int ea), .val (.int eb), .val (.int (((x0.toUInt32 >>> ((2 : Int32) &&& 31).toUInt32).toInt32) &&& (3 : Int32))), .val (.int rb), .val (.ref b41), .val (.ref b43), .unset] [(.int ea)])) _
              refine XS.ifYes X44.here hx rfl (pc0 := 138) (pc' := 156) rfl (hb hby at_138) rfl ((if0 _ _).trans (feq hc57).2) (by decide) (by decide) ?_
              show Steps p.tables e below (T44.setTop (mkF m 156 #[.val (.int x0), .val (.int x1), .val (.int x2), .val (.int ea), .val (.int eb), .val (.int (((x0.toUInt32 >>> ((2 : Int32) &&& 31).toUInt32).toInt32) &&& (3 : Int32))), .val (.int rb), .val (.ref b41), .val (.ref b43), .unset] [])) _
              refine XS.iconst X44.here hx rfl (hb hby at_156) ?_
              show Steps p.tables e below (T44.setTop (mkF m 157 #[.val (.int x0), .val (.int x1), .val (.int x2), .val (.int ea), .val (.int eb), .val (.int (((x0.toUInt32 >>> ((2 : Int32) &&& 31).toUInt32).toInt32) &&& (3 : Int32))), .val (.int rb), .val (.ref b41), .val (.ref b43), .unset] [(.int (0 : Int32))])) _
              refine XS.istore X44.here hx rfl (hb hby at_157) rfl (l' := #[.val (.int x0), .val (.int x1), .val (.int x2), .val (.int ea), .val (.int eb), .val (.int (((x0.toUInt32 >>> ((2 : Int32) &&& 31).toUInt32).toInt32) &&& (3 : Int32))), .val (.int rb), .val (.ref b41), .val (.ref b43), .val (.int (0 : Int32))]) rfl ?_
              show Steps p.tables e below (T44.setTop (mkF m 159 #[.val (.int x0), .val (.int x1), .val (.int x2), .val (.int ea), .val (.int eb), .val (.int (((x0.toUInt32 >>> ((2 : Int32) &&& 31).toUInt32).toInt32) &&& (3 : Int32))), .val (.int rb), .val (.ref b41), .val (.ref b43), .val (.int (0 : Int32))] [])) _
              refine XS.aload X44.here hx rfl (hb hby at_159) rfl rfl ?_
              show Steps p.tables e below (T44.setTop (mkF m 161 #[.val (.int x0), .val (.int x1), .val (.int x2), .val (.int ea), .val (.int eb), .val (.int (((x0.toUInt32 >>> ((2 : Int32) &&& 31).toUInt32).toInt32) &&& (3 : Int32))), .val (.int rb), .val (.ref b41), .val (.ref b43), .val (.int (0 : Int32))] [(.ref b41)])) _
              refine XS.aload X44.here hx rfl (hb hby at_161) rfl rfl ?_
              show Steps p.tables e below (T44.setTop (mkF m 163 #[.val (.int x0), .val (.int x1), .val (.int x2), .val (.int ea), .val (.int eb), .val (.int (((x0.toUInt32 >>> ((2 : Int32) &&& 31).toUInt32).toInt32) &&& (3 : Int32))), .val (.int rb), .val (.ref b41), .val (.ref b43), .val (.int (0 : Int32))] [(.ref b43), (.ref b41)])) _
              refine st70.trans ?_
              show Steps p.tables e below (T70.setTop (mkF m 166 #[.val (.int x0), .val (.int x1), .val (.int x2), .val (.int ea), .val (.int eb), .val (.int (((x0.toUInt32 >>> ((2 : Int32) &&& 31).toUInt32).toInt32) &&& (3 : Int32))), .val (.int rb), .val (.ref b41), .val (.ref b43), .val (.int (0 : Int32))] [(.int (0 : Int32))])) _
              refine XS.iload X70.here hx rfl (hb hby at_166) rfl ?_
              show Steps p.tables e below (T70.setTop (mkF m 168 #[.val (.int x0), .val (.int x1), .val (.int x2), .val (.int ea), .val (.int eb), .val (.int (((x0.toUInt32 >>> ((2 : Int32) &&& 31).toUInt32).toInt32) &&& (3 : Int32))), .val (.int rb), .val (.ref b41), .val (.ref b43), .val (.int (0 : Int32))] [(.int (0 : Int32)), (.int (0 : Int32))])) _
              refine XS.icmpNo X70.here hx rfl (hb hby at_168) rfl (teq (by decide : (0 : Int32) = (0 : Int32))).2 ?_
              show Steps p.tables e below (T70.setTop (mkF m 171 #[.val (.int x0), .val (.int x1), .val (.int x2), .val (.int ea), .val (.int eb), .val (.int (((x0.toUInt32 >>> ((2 : Int32) &&& 31).toUInt32).toInt32) &&& (3 : Int32))), .val (.int rb), .val (.ref b41), .val (.ref b43), .val (.int (0 : Int32))] [])) _
              refine XS.aload X70.here hx rfl (hb hby at_171) rfl rfl ?_
              show Steps p.tables e below (T70.setTop (mkF m 173 #[.val (.int x0), .val (.int x1), .val (.int x2), .val (.int ea), .val (.int eb), .val (.int (((x0.toUInt32 >>> ((2 : Int32) &&& 31).toUInt32).toInt32) &&& (3 : Int32))), .val (.int rb), .val (.ref b41), .val (.ref b43), .val (.int (0 : Int32))] [(.ref b43)])) _
              refine XS.aload X70.here hx rfl (hb hby at_173) rfl rfl ?_
              show Steps p.tables e below (T70.setTop (mkF m 175 #[.val (.int x0), .val (.int x1), .val (.int x2), .val (.int ea), .val (.int eb), .val (.int (((x0.toUInt32 >>> ((2 : Int32) &&& 31).toUInt32).toInt32) &&& (3 : Int32))), .val (.int rb), .val (.ref b41), .val (.ref b43), .val (.int (0 : Int32))] [(.ref b41), (.ref b43)])) _
              refine st71.trans ?_
              show Steps p.tables e below (T71.setTop (mkF m 178 #[.val (.int x0), .val (.int x1), .val (.int x2), .val (.int ea), .val (.int eb), .val (.int (((x0.toUInt32 >>> ((2 : Int32) &&& 31).toUInt32).toInt32) &&& (3 : Int32))), .val (.int rb), .val (.ref b41), .val (.ref b43), .val (.int (0 : Int32))] [(.int (0 : Int32))])) _
              refine XS.iload X71.here hx rfl (hb hby at_178) rfl ?_
              show Steps p.tables e below (T71.setTop (mkF m 180 #[.val (.int x0), .val (.int x1), .val (.int x2), .val (.int ea), .val (.int eb), .val (.int (((x0.toUInt32 >>> ((2 : Int32) &&& 31).toUInt32).toInt32) &&& (3 : Int32))), .val (.int rb), .val (.ref b41), .val (.ref b43), .val (.int (0 : Int32))] [(.int (0 : Int32)), (.int (0 : Int32))])) _
              refine XS.icmpNo X71.here hx rfl (hb hby at_180) rfl (teq (by decide : (0 : Int32) = (0 : Int32))).2 ?_
              show Steps p.tables e below (T71.setTop (mkF m 183 #[.val (.int x0), .val (.int x1), .val (.int x2), .val (.int ea), .val (.int eb), .val (.int (((x0.toUInt32 >>> ((2 : Int32) &&& 31).toUInt32).toInt32) &&& (3 : Int32))), .val (.int rb), .val (.ref b41), .val (.ref b43), .val (.int (0 : Int32))] [])) _
              refine XS.iconst X71.here hx rfl (hb hby at_183) ?_
              show Steps p.tables e below (T71.setTop (mkF m 184 #[.val (.int x0), .val (.int x1), .val (.int x2), .val (.int ea), .val (.int eb), .val (.int (((x0.toUInt32 >>> ((2 : Int32) &&& 31).toUInt32).toInt32) &&& (3 : Int32))), .val (.int rb), .val (.ref b41), .val (.ref b43), .val (.int (0 : Int32))] [(.int (1 : Int32))])) _
              refine XS.goto X71.here hx rfl (pc0 := 184) (pc' := 188) rfl (hb hby at_184) (by decide) (by decide) ?_
              show Steps p.tables e below (T71.setTop (mkF m 188 #[.val (.int x0), .val (.int x1), .val (.int x2), .val (.int ea), .val (.int eb), .val (.int (((x0.toUInt32 >>> ((2 : Int32) &&& 31).toUInt32).toInt32) &&& (3 : Int32))), .val (.int rb), .val (.ref b41), .val (.ref b43), .val (.int (0 : Int32))] [(.int (1 : Int32))])) _
              exact retN X71 hx (t := .boolean) Bd.returns (by simp) (hb hby at_188) hr
            · show Q_0 Z x0 x1 x2 ea eb rb cl ca h0 n0 _ T71.heap _
              rw [e71q]
              exact ⟨rfl, N71⟩
          · skip
            obtain ⟨cq72, kq72, q72a, q72b, q72c⟩ := isOf hZ rfl ((E42q.ext E43).keep K44q)
            obtain ⟨_, _, ⟨T72, L72, k72, n72⟩, -, X72, ⟨Lc72, hQ72, l72, y72, z72⟩, st72⟩ := X44.virtualBack hx (y := (⟨"com/example/gated_chorus/gatedchorus/gate/Standing", "equals", "(Ljava/lang/Object;)Z"⟩ : MethodName)) (z := (⟨"com/example/gated_chorus/gatedchorus/gate/Standing", "equals", "(Ljava/lang/Object;)Z"⟩ : MethodName)) hown (mvT hZ (hw _ (List.mem_of_getElem? (i := 13) rfl))) (mvT hZ (hw _ (List.mem_of_getElem? (i := 14) rfl))) (notFace_of_selects (args := #[]) (mvT hZ (hw _ (List.mem_of_getElem? (i := 16) rfl)))) (mvT hZ (hw _ (List.mem_of_getElem? (i := 16) rfl))) (mvT hZ (hw _ (List.mem_of_getElem? (i := 15) rfl))) (by decide) (backOf (W := 0) (rm_3s l Z a0 hw [] b41 b43 ea x1 eb rb (1 : Int32) T44.heap n0 Z44 E44q ((Fe42q.ext E43).keep K44q (ninS (Nat.ne_of_lt (Nat.lt_of_lt_of_le E42q.lt (Nat.le_of_eq g43.symm))) nin0)) ((Fr42q.ext E43).keep K44q (ninS (Nat.ne_of_lt (Nat.lt_of_lt_of_le E42q.lt (Nat.le_of_eq g43.symm))) nin0)) Fe44q Fr44q heb (by unfold own_eq; rw [if_neg hc57, heb.resolve_left hc69])) hZ (hw _ (List.mem_of_getElem? (i := 17) rfl)) (hw _ (List.mem_of_getElem? (i := 2) rfl)) (by decide) (by decide)) q72a q72c (g := (mkF m 163 #[.val (.int x0), .val (.int x1), .val (.int x2), .val (.int ea), .val (.int eb), .val (.int (((x0.toUInt32 >>> ((2 : Int32) &&& 31).toUInt32).toInt32) &&& (3 : Int32))), .val (.int rb), .val (.ref b41), .val (.ref b43), .val (.int (1 : Int32))] [(.ref b43), (.ref b41)])) rfl (by rw [hml]; rfl) (Steps.refl _) (argsL := [(.ref b43)]) (rest := []) (lenOf pd__Ljava_lang_Object__Z rfl) rfl (by show 2 * 0 + _ ≤ _; exact Nat.le_of_eq rfl) (hb hby at_163) (fun _ _ => ⟨rfl, rfl, (by decide : 2 + 0 ≤ _), (by decide : 4 + 0 ≤ _)⟩)
            dsimp only [Pt.U, Pt.locs, Pt.cells, Pt.slots] at X72 l72 y72 z72 st72 hQ72
            subst l72 y72 z72
            obtain ⟨rfl, N72q, e72q⟩ := hQ72
            have N72 := Fr.app N44 N72q
            obtain ⟨cq73, kq73, q73a, q73b, q73c⟩ := isOf hZ e72q E44q
            obtain ⟨_, _, ⟨T73, L73, k73, n73⟩, -, X73, ⟨Lc73, hQ73, l73, y73, z73⟩, st73⟩ := X72.virtualBack hx (y := (⟨"com/example/gated_chorus/gatedchorus/gate/Standing", "equals", "(Ljava/lang/Object;)Z"⟩ : MethodName)) (z := (⟨"com/example/gated_chorus/gatedchorus/gate/Standing", "equals", "(Ljava/lang/Object;)Z"⟩ : MethodName)) hown (mvT hZ (hw _ (List.mem_of_getElem? (i := 13) rfl))) (mvT hZ (hw _ (List.mem_of_getElem? (i := 14) rfl))) (notFace_of_selects (args := #[]) (mvT hZ (hw _ (List.mem_of_getElem? (i := 16) rfl)))) (mvT hZ (hw _ (List.mem_of_getElem? (i := 16) rfl))) (mvT hZ (hw _ (List.mem_of_getElem? (i := 15) rfl))) (by decide) (backOf (W := 0) (rm_3s l Z a0 hw [] b43 b41 eb rb ea x1 (1 : Int32) T44.heap n0 Z44 ((E42q.ext E43).keep K44q) Fe44q Fr44q ((Fe42q.ext E43).keep K44q (ninS (Nat.ne_of_lt (Nat.lt_of_lt_of_le E42q.lt (Nat.le_of_eq g43.symm))) nin0)) ((Fr42q.ext E43).keep K44q (ninS (Nat.ne_of_lt (Nat.lt_of_lt_of_le E42q.lt (Nat.le_of_eq g43.symm))) nin0)) hea (by unfold own_eq; rw [if_neg hc69, hea.resolve_left hc57])) hZ (hw _ (List.mem_of_getElem? (i := 17) rfl)) (hw _ (List.mem_of_getElem? (i := 2) rfl)) (by decide) (by decide)) q73a q73c (g := (mkF m 175 #[.val (.int x0), .val (.int x1), .val (.int x2), .val (.int ea), .val (.int eb), .val (.int (((x0.toUInt32 >>> ((2 : Int32) &&& 31).toUInt32).toInt32) &&& (3 : Int32))), .val (.int rb), .val (.ref b41), .val (.ref b43), .val (.int (1 : Int32))] [(.ref b41), (.ref b43)])) rfl (by rw [hml]; rfl) (Steps.refl _) (argsL := [(.ref b41)]) (rest := []) (lenOf pd__Ljava_lang_Object__Z rfl) rfl (by show 2 * 0 + _ ≤ _; exact Nat.le_of_eq rfl) (hb hby at_175) (fun _ _ => ⟨rfl, e72q, (by decide : 2 + 0 ≤ _), (by decide : 4 + 0 ≤ _)⟩)
            dsimp only [Pt.U, Pt.locs, Pt.cells, Pt.slots] at X73 l73 y73 z73 st73 hQ73
            subst l73 y73 z73
            obtain ⟨rfl, N73q, e73q⟩ := hQ73
            have N73 := Fr.app N72 N73q
            obtain ⟨fs, hr, hrun, hended, hW, hsame⟩ := X73.leave (v := some (.int (1 : Int32))) (fun h => by rw [Bd.returns] at h; cases h)
            refine ⟨_, _, pw68 _ ?_, hrun, hended, _, _, rfl, ?_, ⟨_, rfl⟩, hW, hsame.mono (by decide) (by decide)⟩
            · skip
              refine XS.ifYes X44.here hx rfl (pc0 := 134) (pc' := 152) rfl (hb hby at_134) rfl ((if0 _ _).trans (feq hc69).2) (by decide) (by decide) ?_
              show Steps p.tables e below (T44.setTop (mkF m 152 #[.val (.int x0), .val (.int x1), .val (.int x2), .val (.int ea), .val (.int eb), .val (.int (((x0.toUInt32 >>> ((2 : Int32) &&& 31).toUInt32).toInt32) &&& (3 : Int32))), .val (.int rb), .val (.ref b41), .val (.ref b43), .unset] [])) _
              refine XS.iconst X44.here hx rfl (hb hby at_152) ?_
              show Steps p.tables e below (T44.setTop (mkF m 153 #[.val (.int x0), .val (.int x1), .val (.int x2), .val (.int ea), .val (.int eb), .val (.int (((x0.toUInt32 >>> ((2 : Int32) &&& 31).toUInt32).toInt32) &&& (3 : Int32))), .val (.int rb), .val (.ref b41), .val (.ref b43), .unset] [(.int (1 : Int32))])) _
              refine XS.goto X44.here hx rfl (pc0 := 153) (pc' := 157) rfl (hb hby at_153) (by decide) (by decide) ?_
              show Steps p.tables e below (T44.setTop (mkF m 157 #[.val (.int x0), .val (.int x1), .val (.int x2), .val (.int ea), .val (.int eb), .val (.int (((x0.toUInt32 >>> ((2 : Int32) &&& 31).toUInt32).toInt32) &&& (3 : Int32))), .val (.int rb), .val (.ref b41), .val (.ref b43), .unset] [(.int (1 : Int32))])) _
              refine XS.istore X44.here hx rfl (hb hby at_157) rfl (l' := #[.val (.int x0), .val (.int x1), .val (.int x2), .val (.int ea), .val (.int eb), .val (.int (((x0.toUInt32 >>> ((2 : Int32) &&& 31).toUInt32).toInt32) &&& (3 : Int32))), .val (.int rb), .val (.ref b41), .val (.ref b43), .val (.int (1 : Int32))]) rfl ?_
              show Steps p.tables e below (T44.setTop (mkF m 159 #[.val (.int x0), .val (.int x1), .val (.int x2), .val (.int ea), .val (.int eb), .val (.int (((x0.toUInt32 >>> ((2 : Int32) &&& 31).toUInt32).toInt32) &&& (3 : Int32))), .val (.int rb), .val (.ref b41), .val (.ref b43), .val (.int (1 : Int32))] [])) _
              refine XS.aload X44.here hx rfl (hb hby at_159) rfl rfl ?_
              show Steps p.tables e below (T44.setTop (mkF m 161 #[.val (.int x0), .val (.int x1), .val (.int x2), .val (.int ea), .val (.int eb), .val (.int (((x0.toUInt32 >>> ((2 : Int32) &&& 31).toUInt32).toInt32) &&& (3 : Int32))), .val (.int rb), .val (.ref b41), .val (.ref b43), .val (.int (1 : Int32))] [(.ref b41)])) _
              refine XS.aload X44.here hx rfl (hb hby at_161) rfl rfl ?_
              show Steps p.tables e below (T44.setTop (mkF m 163 #[.val (.int x0), .val (.int x1), .val (.int x2), .val (.int ea), .val (.int eb), .val (.int (((x0.toUInt32 >>> ((2 : Int32) &&& 31).toUInt32).toInt32) &&& (3 : Int32))), .val (.int rb), .val (.ref b41), .val (.ref b43), .val (.int (1 : Int32))] [(.ref b43), (.ref b41)])) _
              refine st72.trans ?_
              show Steps p.tables e below (T72.setTop (mkF m 166 #[.val (.int x0), .val (.int x1), .val (.int x2), .val (.int ea), .val (.int eb), .val (.int (((x0.toUInt32 >>> ((2 : Int32) &&& 31).toUInt32).toInt32) &&& (3 : Int32))), .val (.int rb), .val (.ref b41), .val (.ref b43), .val (.int (1 : Int32))] [(.int (1 : Int32))])) _
              refine XS.iload X72.here hx rfl (hb hby at_166) rfl ?_
              show Steps p.tables e below (T72.setTop (mkF m 168 #[.val (.int x0), .val (.int x1), .val (.int x2), .val (.int ea), .val (.int eb), .val (.int (((x0.toUInt32 >>> ((2 : Int32) &&& 31).toUInt32).toInt32) &&& (3 : Int32))), .val (.int rb), .val (.ref b41), .val (.ref b43), .val (.int (1 : Int32))] [(.int (1 : Int32)), (.int (1 : Int32))])) _
              refine XS.icmpNo X72.here hx rfl (hb hby at_168) rfl (teq (by decide : (1 : Int32) = (1 : Int32))).2 ?_
              show Steps p.tables e below (T72.setTop (mkF m 171 #[.val (.int x0), .val (.int x1), .val (.int x2), .val (.int ea), .val (.int eb), .val (.int (((x0.toUInt32 >>> ((2 : Int32) &&& 31).toUInt32).toInt32) &&& (3 : Int32))), .val (.int rb), .val (.ref b41), .val (.ref b43), .val (.int (1 : Int32))] [])) _
              refine XS.aload X72.here hx rfl (hb hby at_171) rfl rfl ?_
              show Steps p.tables e below (T72.setTop (mkF m 173 #[.val (.int x0), .val (.int x1), .val (.int x2), .val (.int ea), .val (.int eb), .val (.int (((x0.toUInt32 >>> ((2 : Int32) &&& 31).toUInt32).toInt32) &&& (3 : Int32))), .val (.int rb), .val (.ref b41), .val (.ref b43), .val (.int (1 : Int32))] [(.ref b43)])) _
              refine XS.aload X72.here hx rfl (hb hby at_173) rfl rfl ?_
              show Steps p.tables e below (T72.setTop (mkF m 175 #[.val (.int x0), .val (.int x1), .val (.int x2), .val (.int ea), .val (.int eb), .val (.int (((x0.toUInt32 >>> ((2 : Int32) &&& 31).toUInt32).toInt32) &&& (3 : Int32))), .val (.int rb), .val (.ref b41), .val (.ref b43), .val (.int (1 : Int32))] [(.ref b41), (.ref b43)])) _
              refine st73.trans ?_
              show Steps p.tables e below (T73.setTop (mkF m 178 #[.val (.int x0), .val (.int x1), .val (.int x2), .val (.int ea), .val (.int eb), .val (.int (((x0.toUInt32 >>> ((2 : Int32) &&& 31).toUInt32).toInt32) &&& (3 : Int32))), .val (.int rb), .val (.ref b41), .val (.ref b43), .val (.int (1 : Int32))] [(.int (1 : Int32))])) _
              refine XS.iload X73.here hx rfl (hb hby at_178) rfl ?_
              show Steps p.tables e below (T73.setTop (mkF m 180 #[.val (.int x0), .val (.int x1), .val (.int x2), .val (.int ea), .val (.int eb), .val (.int (((x0.toUInt32 >>> ((2 : Int32) &&& 31).toUInt32).toInt32) &&& (3 : Int32))), .val (.int rb), .val (.ref b41), .val (.ref b43), .val (.int (1 : Int32))] [(.int (1 : Int32)), (.int (1 : Int32))])) _
              refine XS.icmpNo X73.here hx rfl (hb hby at_180) rfl (teq (by decide : (1 : Int32) = (1 : Int32))).2 ?_
              show Steps p.tables e below (T73.setTop (mkF m 183 #[.val (.int x0), .val (.int x1), .val (.int x2), .val (.int ea), .val (.int eb), .val (.int (((x0.toUInt32 >>> ((2 : Int32) &&& 31).toUInt32).toInt32) &&& (3 : Int32))), .val (.int rb), .val (.ref b41), .val (.ref b43), .val (.int (1 : Int32))] [])) _
              refine XS.iconst X73.here hx rfl (hb hby at_183) ?_
              show Steps p.tables e below (T73.setTop (mkF m 184 #[.val (.int x0), .val (.int x1), .val (.int x2), .val (.int ea), .val (.int eb), .val (.int (((x0.toUInt32 >>> ((2 : Int32) &&& 31).toUInt32).toInt32) &&& (3 : Int32))), .val (.int rb), .val (.ref b41), .val (.ref b43), .val (.int (1 : Int32))] [(.int (1 : Int32))])) _
              refine XS.goto X73.here hx rfl (pc0 := 184) (pc' := 188) rfl (hb hby at_184) (by decide) (by decide) ?_
              show Steps p.tables e below (T73.setTop (mkF m 188 #[.val (.int x0), .val (.int x1), .val (.int x2), .val (.int ea), .val (.int eb), .val (.int (((x0.toUInt32 >>> ((2 : Int32) &&& 31).toUInt32).toInt32) &&& (3 : Int32))), .val (.int rb), .val (.ref b41), .val (.ref b43), .val (.int (1 : Int32))] [(.int (1 : Int32))])) _
              exact retN X73 hx (t := .boolean) Bd.returns (by simp) (hb hby at_188) hr
            · show Q_0 Z x0 x1 x2 ea eb rb cl ca h0 n0 _ T73.heap _
              rw [e73q]
              exact ⟨rfl, N73⟩
set_option maxRecDepth 65536 in
set_option maxHeartbeats 40000000 in
theorem comes_1 {Post : Tables → Env → Array Value → State → Outcome → State → Prop} (hpost : ∀ tb e args s v u, (limb_1_1.after args s (.returned v) u = true ∧ limb_1_2.after args s (.returned v) u = true ∧ True) → FrameEnd s (.returned v) u (Jvm.fieldLocs frame_1_writes args s ++ Jvm.arrayLocs frame_1_arrays args s ++ Jvm.staticLocs frame_1_statics s) 16 128 → Post tb e args s (.returned v) u) :
    ArmFor flags0 classFile x code maxLocals ret World_1 tables_1 room_1 Calls_1 rest_1 Pre_1 Post := by
  intro l hfl _ _ p e ha hc hk s m args below hf hA hF happ hP
  obtain ⟨hcalls, hrest, hpre⟩ := hP
  obtain ⟨-, -, -, hnamed, -, -, -, hat⟩ := (Spec.applies_iff hf).mp happ
  obtain ⟨hg, hn⟩ := and_e (Cond.before_iff.mp (show (Jvm.Cond.and given_1 narrow_1).before args s = true from hpre))
  obtain ⟨g74, g75⟩ := and_e hg
  obtain ⟨g76, g77⟩ := and_e g75
  obtain ⟨g78, g79⟩ := and_e g77
  obtain ⟨w0, w1, w2, rfl⟩ : ∃ w0 w1 w2 : Value, args = #[w0, w1, w2] := by
    have hs : args.size = 3 := by simpa [Cond.value, given_1] using g74
    obtain ⟨L⟩ := args
    match L, hs with
    | [w0, w1, w2], _ => exact ⟨w0, w1, w2, rfl⟩
  have hw := fun d (hd : d ∈ tables_1) => atoms_spec (ws := Jvm.Cond.code x code maxLocals ret :: tables_1) hat d (List.mem_cons_of_mem _ hd)
  have hfit : Fit s := fun {y c} hc i hi => by
    obtain ⟨ha, rfl⟩ := Array.getElem?_eq_some_iff.mp hc
    have q := List.all_eq_true.mp ((Array.all_eq_true_iff_forall_mem.mp hF) _ (Array.getElem_mem ha)) i (List.mem_range.mpr hi)
    simpa [Array.getElem?_eq_getElem hi] using q
  obtain ⟨hsets, hown0⟩ := atoms_of _ (rest_1_c_eq ▸ (show rest_1_c.before _ s = true from hrest))
  have hr0 := Cond.before_iff.mp hown0
  obtain ⟨x0, ei0⟩ := is_v g76
  obtain rfl : w0 = (.int x0) := Option.some.inj ei0
  obtain ⟨x1, ei1⟩ := is_v g78
  obtain rfl : w1 = (.int x1) := Option.some.inj ei1
  obtain ⟨x2, ei2⟩ := is_v g79
  obtain rfl : w2 = (.int x2) := Option.some.inj ei2
  have evh : (Jvm.Term.static "java/lang/Integer$IntegerCache" "high" "I").eval #[.int x0, .int x1, .int x2] s none [] s = some (.int 127) := eqv_i rfl (Cond.before_iff.mp (hsets _ (List.mem_of_getElem? (i := 3) rfl)))
  have S_h : Sta s s.heap "java/lang/Integer$IntegerCache" "high" "I" (.int (127 : Int32)) := Sta.start evh (Or.inl (hsets _ (List.mem_of_getElem? (i := 1) rfl)))
  obtain ⟨ca, evc⟩ := arr_v (Cond.before_iff.mp (hsets _ (List.mem_of_getElem? (i := 4) rfl)))
  have S_c : Sta s s.heap "java/lang/Integer$IntegerCache" "cache" "[Ljava/lang/Integer;" (.ref ca) := Sta.start evc (Or.inr ⟨(hw _ (List.mem_of_getElem? (i := 43) rfl)), (hsets _ (List.mem_of_getElem? (i := 2) rfl))⟩)
  obtain ⟨cl, Ar_c⟩ := Arr.start evc (Cond.before_iff.mp (hsets _ (List.mem_of_getElem? (i := 4) rfl)))
  obtain ⟨hq1, hq2⟩ := own_len Ar_c evc (Cond.before_iff.mp (hsets _ (List.mem_of_getElem? (i := 6) rfl)))
  have hB := Bxs.start (K := "java/lang/Integer") (d := "I") (z := 256) (val := fun j => .int (j.toNatClampNeg.toInt32 - 128)) (fun _ => evc) Ar_c hq1 hq2 (by decide) (Cond.before_iff.mp (hsets _ (List.mem_of_getElem? (i := 7) rfl))) (fun X j _ h => eqv_i (by simp [Term.eval]) h)
  have hsz : cl.slots.size = 256 := hB.2.1.trans (by decide)
  have hcache : ∀ j : Int32, ¬ (j < 0 ∨ cl.slots.size ≤ j.toNatClampNeg) → ∃ b, cl.slots[j.toNatClampNeg]? = some (.ref b) ∧ Exa s s.heap b "java/lang/Integer" := fun j hj => by obtain ⟨b, q1, q2, -⟩ := hB.2.2.2 j hj; exact ⟨b, q1, q2⟩
  obtain ⟨n, o, h1, h2, h3, _, L, rfl, ⟨rfl, N⟩, hq⟩ := rm_0 l s _ hw tables_1 x0 x1 x2 _ _ _ cl ca s.heap s.heap.size (Nat.le_refl _) S_h S_c Ar_c hsz hcache rfl rfl rfl (own_bit01 x0 1) (own_bit01 x0 2) p e ha hc hk s m _ below hf ((Spec.applies_iff_loose hf).mp happ).1 ⟨rfl, State.Warmed39.refl s, rfl⟩ trivial
  refine ⟨n, _, h1, h2, h3, hpost _ _ _ _ _ _ ⟨Cond.after_iff.mpr rfl, Cond.after_iff.mpr (eq_i res_at (Term.int_eval (1)) rfl), trivial⟩ ⟨hq.1, hq.2.1, (hq.2.2.sift fun y hy => Or.inr (N y hy)).mono (by decide) (by decide)⟩⟩
theorem main_1_1 : Claimed_1_1 := comes_1 fun _ _ _ _ _ _ h hF => ⟨h.1, hF⟩
theorem main_1_2 : Claimed_1_2 := comes_1 fun _ _ _ _ _ _ h hF => ⟨h.2.1, hF⟩
end Jvm.Pilot.@@N@@
namespace Jvm.Pilot.@@N@@
open Jvm Jvm.ClassFile Sem Op Lib Jvm.Free Jvm.Stand Jvm.Pilot.@@N@@.Jvm.D
/-! MADE BY PROGRAM (witnessworld.py) out of the Statement's table words and the real class files: 16 classes; the members and pool entries that the words name. The judged class is class 1, her method 1. -/
namespace start1
open Jvm.ClassFile
def u (s : String) : CpInfo := .utf8 (stringToUtf16 s)
/-- a pool by its gaps: so many unusable entries, then the entry; so many at the end -/
def gap : Nat → List CpInfo → List CpInfo
  | 0, r => r
  | n + 1, r => .unusable :: gap n r
def poolList (es : List (Nat × CpInfo)) (last : Nat) : List CpInfo := es.foldr (fun e r => gap e.1 (e.2 :: r)) (gap last [])
def pool (es : List (Nat × CpInfo)) (last : Nat) : Array CpInfo := ⟨poolList es last⟩
def fileOf (pool : Array CpInfo) (this : Nat) (attrs : Array Attribute := #[]) (ms : Array MethodInfo := #[]) (fl : Nat := 33) (sup : Nat := 0) (ifs : Array Nat := #[]) (fds : Array FieldInfo := #[]) : ClassFile where
  minorVersion := 0
  majorVersion := 65
  constantPool := pool
  accessFlags := fl
  thisClass := this
  superClass := sup
  interfaces := ifs
  fields := fds
  methods := ms
  attributes := attrs
def plain (name : String) (sup : Option ClassId) : Class where
  name := name
  kind := .ordinary
  loader := none
  accessFlags := 33
  super := sup
  interfaces := #[]
  cf := none
  fields := #[]
  methods := #[]
  instanceTypes := #[]
  staticTypes := #[]
  resolved := #[]
  callSites := []
  init := .initialized
  statics := none
  mirror := none

def pool0 : Array CpInfo := pool [(5, u "<init>"), (0, u "()V"), (1, .class_ 10), (1, u "java/lang/Object")] 113

def k0c0 : Code := { maxStack := 0, maxLocals := 1, code := object_method_1_code, exceptionTable := #[], attributes := #[] }
def k0m0 : Method := { name := "<init>", desc := "()V", sig := { parameters := [], returnType := none }, accessFlags := 1, code := some k0c0 }
/-- java/lang/Object -/
def k0 : Class := { plain "java/lang/Object" none with
  accessFlags := 33
  interfaces := #[]
  cf := some (fileOf pool0 8 #[] #[{ accessFlags := 1, nameIndex := 5, descriptorIndex := 6, attributes := #[] }] 33 0 #[] #[])
  fields := #[]
  methods := #[k0m0]
  instanceTypes := #[]
  staticTypes := #[]
  resolved := Array.replicate 124 none
  statics := none }

def pool1 : Array CpInfo := pool [(2, .class_ 4), (1, u "java/lang/Object"), (0, u "<init>"), (0, u "()V"), (0, .class_ 8), (0, u "com/example/gated_chorus/gatedchorus/gate/Standing"), (0, .methodref 7 10), (0, .nameAndType 5 11), (0, u "(ZI)V"), (0, .methodref 7 13), (0, .nameAndType 14 15), (0, u "equals"), (0, u "(Ljava/lang/Object;)Z"), (0, .methodref 17 18), (0, .class_ 19), (0, .nameAndType 20 21), (0, u "java/lang/Integer"), (0, u "valueOf"), (0, u "(I)Ljava/lang/Integer;"), (0, .class_ 23), (0, u "com/example/gated_chorus/gatedchorus/gate/StandingEqualsPinLaw"), (2, u "law"), (0, u "(III)Z")] 3

def k1m0 : Method := { name := "<init>", desc := "()V", sig := { parameters := [], returnType := none }, accessFlags := 1, code := none }
def k1c1 : Code := { maxStack := 4, maxLocals := 10, code := code, exceptionTable := #[], attributes := #[] }
def k1m1 : Method := { name := "law", desc := "(III)Z", sig := { parameters := [.int, .int, .int], returnType := some .boolean }, accessFlags := 9, code := some k1c1 }
/-- com/example/gated_chorus/gatedchorus/gate/StandingEqualsPinLaw -/
def k1 : Class := { plain "com/example/gated_chorus/gatedchorus/gate/StandingEqualsPinLaw" (some 0) with
  accessFlags := 49
  interfaces := #[]
  cf := some (fileOf pool1 22 #[] #[{ accessFlags := 1, nameIndex := 5, descriptorIndex := 6, attributes := #[] }, { accessFlags := 9, nameIndex := 26, descriptorIndex := 27, attributes := #[] }] 49 2 #[] #[])
  fields := #[]
  methods := #[k1m0, k1m1]
  instanceTypes := #[]
  staticTypes := #[]
  resolved := Array.replicate 31 none
  statics := none }

def pool2 : Array CpInfo := pool [(1, .methodref 2 3), (0, .class_ 4), (0, .nameAndType 5 6), (0, u "java/lang/Object"), (0, u "<init>"), (0, u "()V"), (0, .fieldref 8 9), (0, .class_ 10), (0, .nameAndType 11 12), (0, u "com/example/gated_chorus/gatedchorus/gate/Standing"), (0, u "exempt"), (0, u "Z"), (0, .fieldref 8 14), (0, .nameAndType 15 16), (0, u "remainder"), (0, u "I"), (12, u "(ZI)V"), (5, u "equals"), (0, u "(Ljava/lang/Object;)Z")] 4

def k2c0 : Code := { maxStack := 2, maxLocals := 3, code := prog_12_method_1_code, exceptionTable := #[], attributes := #[] }
def k2m0 : Method := { name := "<init>", desc := "(ZI)V", sig := { parameters := [.boolean, .int], returnType := none }, accessFlags := 0, code := some k2c0 }
def k2c1 : Code := { maxStack := 2, maxLocals := 3, code := prog_12_method_3_code, exceptionTable := #[], attributes := #[] }
def k2m1 : Method := { name := "equals", desc := "(Ljava/lang/Object;)Z", sig := { parameters := [(.object "java/lang/Object")], returnType := some .boolean }, accessFlags := 1, code := some k2c1 }
/-- com/example/gated_chorus/gatedchorus/gate/Standing -/
def k2 : Class := { plain "com/example/gated_chorus/gatedchorus/gate/Standing" (some 0) with
  accessFlags := 49
  interfaces := #[]
  cf := some (fileOf pool2 8 #[] #[{ accessFlags := 0, nameIndex := 5, descriptorIndex := 29, attributes := #[] }, { accessFlags := 1, nameIndex := 35, descriptorIndex := 36, attributes := #[] }] 49 2 #[] #[{ accessFlags := 18, nameIndex := 11, descriptorIndex := 12, attributes := #[] }, { accessFlags := 18, nameIndex := 15, descriptorIndex := 16, attributes := #[] }])
  fields := #[{ name := "exempt", type := .boolean, accessFlags := 18, slot := 0, constantValue := 0 }, { name := "remainder", type := .int, accessFlags := 18, slot := 1, constantValue := 0 }]
  methods := #[k2m0, k2m1]
  instanceTypes := #[.boolean, .int]
  staticTypes := #[]
  resolved := Array.replicate 41 none
  statics := none }

def pool3 : Array CpInfo := pool [(1, .class_ 2), (0, u "java/io/Serializable"), (0, .class_ 4), (0, u "java/lang/Object")] 2

/-- java/io/Serializable -/
def k3 : Class := { plain "java/io/Serializable" (some 0) with
  accessFlags := 1537
  interfaces := #[]
  cf := some (fileOf pool3 1 #[] #[] 1537 3 #[] #[])
  fields := #[]
  methods := #[]
  instanceTypes := #[]
  staticTypes := #[]
  resolved := Array.replicate 7 none
  statics := none }

def pool4 : Array CpInfo := pool [(1, .methodref 2 3), (0, .class_ 4), (0, .nameAndType 5 6), (0, u "java/lang/Object"), (0, u "<init>"), (0, u "()V"), (1, .class_ 10), (1, u "java/lang/Number"), (2, .class_ 14), (0, u "java/io/Serializable"), (0, u "serialVersionUID"), (0, u "J")] 20

def k4c0 : Code := { maxStack := 1, maxLocals := 1, code := jdk_18_method_1_code, exceptionTable := #[], attributes := #[] }
def k4m0 : Method := { name := "<init>", desc := "()V", sig := { parameters := [], returnType := none }, accessFlags := 1, code := some k4c0 }
/-- java/lang/Number -/
def k4 : Class := { plain "java/lang/Number" (some 0) with
  accessFlags := 1057
  interfaces := #[3]
  cf := some (fileOf pool4 8 #[] #[{ accessFlags := 1, nameIndex := 5, descriptorIndex := 6, attributes := #[] }] 1057 2 #[13] #[{ accessFlags := 26, nameIndex := 15, descriptorIndex := 16, attributes := #[] }])
  fields := #[{ name := "serialVersionUID", type := .long, accessFlags := 26, slot := 0, constantValue := 0 }]
  methods := #[k4m0]
  instanceTypes := #[]
  staticTypes := #[.long]
  resolved := Array.replicate 37 none
  statics := none }

def pool5 : Array CpInfo := pool [(1, .class_ 2), (0, u "java/lang/Comparable"), (0, .class_ 4), (0, u "java/lang/Object")] 7

/-- java/lang/Comparable -/
def k5 : Class := { plain "java/lang/Comparable" (some 0) with
  accessFlags := 1537
  interfaces := #[]
  cf := some (fileOf pool5 1 #[] #[] 1537 3 #[] #[])
  fields := #[]
  methods := #[]
  instanceTypes := #[]
  staticTypes := #[]
  resolved := Array.replicate 12 none
  statics := none }

def pool6 : Array CpInfo := pool [(1, .class_ 2), (0, u "java/lang/constant/Constable"), (0, .class_ 4), (0, u "java/lang/Object")] 6

/-- java/lang/constant/Constable -/
def k6 : Class := { plain "java/lang/constant/Constable" (some 0) with
  accessFlags := 1537
  interfaces := #[]
  cf := some (fileOf pool6 1 #[] #[] 1537 3 #[] #[])
  fields := #[]
  methods := #[]
  instanceTypes := #[]
  staticTypes := #[]
  resolved := Array.replicate 11 none
  statics := none }

def pool7 : Array CpInfo := pool [(1, .class_ 2), (0, u "java/lang/constant/ConstantDesc"), (0, .class_ 4), (0, u "java/lang/Object")] 32

/-- java/lang/constant/ConstantDesc -/
def k7 : Class := { plain "java/lang/constant/ConstantDesc" (some 0) with
  accessFlags := 1537
  interfaces := #[]
  cf := some (fileOf pool7 1 #[] #[] 1537 3 #[] #[])
  fields := #[]
  methods := #[]
  instanceTypes := #[]
  staticTypes := #[]
  resolved := Array.replicate 37 none
  statics := none }

def pool8 : Array CpInfo := pool [(1, .class_ 2), (0, u "java/lang/Integer"), (16, u "digits"), (0, u "[C"), (46, u "<init>"), (17, u "DigitOnes"), (0, u "[B"), (2, u "DigitTens"), (10, .nameAndType 67 101), (0, u "()V"), (85, u "valueOf"), (0, u "(I)Ljava/lang/Integer;"), (0, .class_ 190), (0, u "java/lang/Integer$IntegerCache"), (0, .fieldref 189 192), (0, .nameAndType 193 194), (0, u "high"), (0, u "I"), (0, .fieldref 189 196), (0, .nameAndType 197 198), (0, u "cache"), (0, u "[Ljava/lang/Integer;"), (0, .methodref 1 200), (0, .nameAndType 67 201), (0, u "(I)V"), (0, .methodref 203 100), (0, .class_ 204), (0, u "java/lang/Number"), (0, .fieldref 1 206), (0, .nameAndType 207 194), (0, u "value"), (94, u "TYPE"), (0, u "Ljava/lang/Class;"), (0, .class_ 305), (0, u "java/lang/Comparable"), (0, .class_ 307), (0, u "java/lang/constant/Constable"), (0, .class_ 309), (0, u "java/lang/constant/ConstantDesc"), (0, u "MIN_VALUE"), (1, u "MAX_VALUE"), (3, u "SIZE"), (1, u "BYTES"), (1, u "serialVersionUID"), (0, u "J")] 131

def k8c0 : Code := { maxStack := 3, maxLocals := 1, code := jdk_33_method_22_code, exceptionTable := #[], attributes := #[] }
def k8m0 : Method := { name := "valueOf", desc := "(I)Ljava/lang/Integer;", sig := { parameters := [.int], returnType := some (.object "java/lang/Integer") }, accessFlags := 9, code := some k8c0 }
def k8c1 : Code := { maxStack := 2, maxLocals := 2, code := jdk_33_method_23_code, exceptionTable := #[], attributes := #[] }
def k8m1 : Method := { name := "<init>", desc := "(I)V", sig := { parameters := [.int], returnType := none }, accessFlags := 1, code := some k8c1 }
/-- java/lang/Integer -/
def k8 : Class := { plain "java/lang/Integer" (some 4) with
  accessFlags := 49
  interfaces := #[5, 6, 7]
  cf := some (fileOf pool8 1 #[.nestMembers #[189]] #[{ accessFlags := 9, nameIndex := 187, descriptorIndex := 188, attributes := #[] }, { accessFlags := 1, nameIndex := 67, descriptorIndex := 201, attributes := #[] }] 49 203 #[304, 306, 308] #[{ accessFlags := 25, nameIndex := 310, descriptorIndex := 194, attributes := #[] }, { accessFlags := 25, nameIndex := 312, descriptorIndex := 194, attributes := #[] }, { accessFlags := 25, nameIndex := 302, descriptorIndex := 303, attributes := #[] }, { accessFlags := 24, nameIndex := 19, descriptorIndex := 20, attributes := #[] }, { accessFlags := 24, nameIndex := 89, descriptorIndex := 86, attributes := #[] }, { accessFlags := 24, nameIndex := 85, descriptorIndex := 86, attributes := #[] }, { accessFlags := 18, nameIndex := 207, descriptorIndex := 194, attributes := #[] }, { accessFlags := 25, nameIndex := 316, descriptorIndex := 194, attributes := #[] }, { accessFlags := 25, nameIndex := 318, descriptorIndex := 194, attributes := #[] }, { accessFlags := 26, nameIndex := 320, descriptorIndex := 321, attributes := #[] }])
  fields := #[{ name := "MIN_VALUE", type := .int, accessFlags := 25, slot := 0, constantValue := 0 }, { name := "MAX_VALUE", type := .int, accessFlags := 25, slot := 1, constantValue := 0 }, { name := "TYPE", type := (.object "java/lang/Class"), accessFlags := 25, slot := 2, constantValue := 0 }, { name := "digits", type := (.array .char), accessFlags := 24, slot := 3, constantValue := 0 }, { name := "DigitTens", type := (.array .byte), accessFlags := 24, slot := 4, constantValue := 0 }, { name := "DigitOnes", type := (.array .byte), accessFlags := 24, slot := 5, constantValue := 0 }, { name := "value", type := .int, accessFlags := 18, slot := 0, constantValue := 0 }, { name := "SIZE", type := .int, accessFlags := 25, slot := 6, constantValue := 0 }, { name := "BYTES", type := .int, accessFlags := 25, slot := 7, constantValue := 0 }, { name := "serialVersionUID", type := .long, accessFlags := 26, slot := 8, constantValue := 0 }]
  methods := #[k8m0, k8m1]
  instanceTypes := #[.int]
  staticTypes := #[.int, .int, (.object "java/lang/Class"), (.array .char), (.array .byte), (.array .byte), .int, .int, .long]
  resolved := Array.replicate 453 none
  statics := none }

def pool9 : Array CpInfo := pool [(2, .class_ 4), (1, u "java/lang/Object"), (0, u "<init>"), (0, u "()V"), (0, .class_ 8), (0, u "java/lang/Integer"), (7, .class_ 18), (1, u "java/lang/Integer$IntegerCache"), (0, u "$assertionsDisabled"), (0, u "Z"), (26, u "high"), (0, u "I"), (8, u "archivedCache"), (0, u "[Ljava/lang/Integer;"), (12, u "cache"), (0, u "low")] 27

def k9m0 : Method := { name := "<init>", desc := "()V", sig := { parameters := [], returnType := none }, accessFlags := 2, code := none }
/-- java/lang/Integer$IntegerCache -/
def k9 : Class := { plain "java/lang/Integer$IntegerCache" (some 0) with
  accessFlags := 48
  interfaces := #[]
  cf := some (fileOf pool9 16 #[.nestHost 7] #[{ accessFlags := 2, nameIndex := 5, descriptorIndex := 6, attributes := #[] }] 48 2 #[] #[{ accessFlags := 24, nameIndex := 72, descriptorIndex := 48, attributes := #[] }, { accessFlags := 24, nameIndex := 47, descriptorIndex := 48, attributes := #[] }, { accessFlags := 24, nameIndex := 71, descriptorIndex := 58, attributes := #[] }, { accessFlags := 8, nameIndex := 57, descriptorIndex := 58, attributes := #[] }, { accessFlags := 4120, nameIndex := 19, descriptorIndex := 20, attributes := #[] }])
  fields := #[{ name := "low", type := .int, accessFlags := 24, slot := 0, constantValue := 0 }, { name := "high", type := .int, accessFlags := 24, slot := 1, constantValue := 0 }, { name := "cache", type := (.array (.object "java/lang/Integer")), accessFlags := 24, slot := 2, constantValue := 0 }, { name := "archivedCache", type := (.array (.object "java/lang/Integer")), accessFlags := 8, slot := 3, constantValue := 0 }, { name := "$assertionsDisabled", type := .boolean, accessFlags := 4120, slot := 4, constantValue := 0 }]
  methods := #[k9m0]
  instanceTypes := #[]
  staticTypes := #[.int, .int, (.array (.object "java/lang/Integer")), (.array (.object "java/lang/Integer")), .boolean]
  resolved := Array.replicate 100 none
  statics := some 0 }

def pool10 : Array CpInfo := pool [(1, u "java/lang/Cloneable"), (0, .class_ 1), (0, u "java/lang/Object"), (0, .class_ 3)] 3

/-- java/lang/Cloneable -/
def k10 : Class := { plain "java/lang/Cloneable" (some 0) with
  accessFlags := 1537
  interfaces := #[]
  cf := some (fileOf pool10 2 #[] #[] 1537 4 #[] #[])
  fields := #[]
  methods := #[]
  instanceTypes := #[]
  staticTypes := #[]
  resolved := Array.replicate 8 none
  statics := none }

/-- the primitive byte -/
def k11 : Class := { plain "byte" none with kind := .primitive 'B', accessFlags := 0x411 }
/-- [B -/
def k12 : Class := { plain "[B" (some 0) with kind := .array 11 .byte, interfaces := #[10, 3], accessFlags := 1041 }

/-- the primitive int -/
def k13 : Class := { plain "int" none with kind := .primitive 'I', accessFlags := 0x411 }
/-- [I -/
def k14 : Class := { plain "[I" (some 0) with kind := .array 13 .int, interfaces := #[10, 3], accessFlags := 1041 }

/-- [Ljava/lang/Integer; -/
def k15 : Class := { plain "[Ljava/lang/Integer;" (some 0) with kind := .array 8 (.object "java/lang/Integer"), interfaces := #[10, 3], accessFlags := 1041 }

def heap : Heap := #[{ cls := 9, slots := #[.int 0, .int 127, .ref 1, .null, .int 0], vm := .statics 9 },
  { cls := 15, slots := #[.ref 2, .ref 3, .ref 4, .ref 5, .ref 6, .ref 7, .ref 8, .ref 9, .ref 10, .ref 11, .ref 12, .ref 13, .ref 14, .ref 15, .ref 16, .ref 17, .ref 18, .ref 19, .ref 20, .ref 21, .ref 22, .ref 23, .ref 24, .ref 25, .ref 26, .ref 27, .ref 28, .ref 29, .ref 30, .ref 31, .ref 32, .ref 33, .ref 34, .ref 35, .ref 36, .ref 37, .ref 38, .ref 39, .ref 40, .ref 41, .ref 42, .ref 43, .ref 44, .ref 45, .ref 46, .ref 47, .ref 48, .ref 49, .ref 50, .ref 51, .ref 52, .ref 53, .ref 54, .ref 55, .ref 56, .ref 57, .ref 58, .ref 59, .ref 60, .ref 61, .ref 62, .ref 63, .ref 64, .ref 65, .ref 66, .ref 67, .ref 68, .ref 69, .ref 70, .ref 71, .ref 72, .ref 73, .ref 74, .ref 75, .ref 76, .ref 77, .ref 78, .ref 79, .ref 80, .ref 81, .ref 82, .ref 83, .ref 84, .ref 85, .ref 86, .ref 87, .ref 88, .ref 89, .ref 90, .ref 91, .ref 92, .ref 93, .ref 94, .ref 95, .ref 96, .ref 97, .ref 98, .ref 99, .ref 100, .ref 101, .ref 102, .ref 103, .ref 104, .ref 105, .ref 106, .ref 107, .ref 108, .ref 109, .ref 110, .ref 111, .ref 112, .ref 113, .ref 114, .ref 115, .ref 116, .ref 117, .ref 118, .ref 119, .ref 120, .ref 121, .ref 122, .ref 123, .ref 124, .ref 125, .ref 126, .ref 127, .ref 128, .ref 129, .ref 130, .ref 131, .ref 132, .ref 133, .ref 134, .ref 135, .ref 136, .ref 137, .ref 138, .ref 139, .ref 140, .ref 141, .ref 142, .ref 143, .ref 144, .ref 145, .ref 146, .ref 147, .ref 148, .ref 149, .ref 150, .ref 151, .ref 152, .ref 153, .ref 154, .ref 155, .ref 156, .ref 157, .ref 158, .ref 159, .ref 160, .ref 161, .ref 162, .ref 163, .ref 164, .ref 165, .ref 166, .ref 167, .ref 168, .ref 169, .ref 170, .ref 171, .ref 172, .ref 173, .ref 174, .ref 175, .ref 176, .ref 177, .ref 178, .ref 179, .ref 180, .ref 181, .ref 182, .ref 183, .ref 184, .ref 185, .ref 186, .ref 187, .ref 188, .ref 189, .ref 190, .ref 191, .ref 192, .ref 193, .ref 194, .ref 195, .ref 196, .ref 197, .ref 198, .ref 199, .ref 200, .ref 201, .ref 202, .ref 203, .ref 204, .ref 205, .ref 206, .ref 207, .ref 208, .ref 209, .ref 210, .ref 211, .ref 212, .ref 213, .ref 214, .ref 215, .ref 216, .ref 217, .ref 218, .ref 219, .ref 220, .ref 221, .ref 222, .ref 223, .ref 224, .ref 225, .ref 226, .ref 227, .ref 228, .ref 229, .ref 230, .ref 231, .ref 232, .ref 233, .ref 234, .ref 235, .ref 236, .ref 237, .ref 238, .ref 239, .ref 240, .ref 241, .ref 242, .ref 243, .ref 244, .ref 245, .ref 246, .ref 247, .ref 248, .ref 249, .ref 250, .ref 251, .ref 252, .ref 253, .ref 254, .ref 255, .ref 256, .ref 257], vm := .none },
  { cls := 8, slots := #[.int (-128)], vm := .none },
  { cls := 8, slots := #[.int (-127)], vm := .none },
  { cls := 8, slots := #[.int (-126)], vm := .none },
  { cls := 8, slots := #[.int (-125)], vm := .none },
  { cls := 8, slots := #[.int (-124)], vm := .none },
  { cls := 8, slots := #[.int (-123)], vm := .none },
  { cls := 8, slots := #[.int (-122)], vm := .none },
  { cls := 8, slots := #[.int (-121)], vm := .none },
  { cls := 8, slots := #[.int (-120)], vm := .none },
  { cls := 8, slots := #[.int (-119)], vm := .none },
  { cls := 8, slots := #[.int (-118)], vm := .none },
  { cls := 8, slots := #[.int (-117)], vm := .none },
  { cls := 8, slots := #[.int (-116)], vm := .none },
  { cls := 8, slots := #[.int (-115)], vm := .none },
  { cls := 8, slots := #[.int (-114)], vm := .none },
  { cls := 8, slots := #[.int (-113)], vm := .none },
  { cls := 8, slots := #[.int (-112)], vm := .none },
  { cls := 8, slots := #[.int (-111)], vm := .none },
  { cls := 8, slots := #[.int (-110)], vm := .none },
  { cls := 8, slots := #[.int (-109)], vm := .none },
  { cls := 8, slots := #[.int (-108)], vm := .none },
  { cls := 8, slots := #[.int (-107)], vm := .none },
  { cls := 8, slots := #[.int (-106)], vm := .none },
  { cls := 8, slots := #[.int (-105)], vm := .none },
  { cls := 8, slots := #[.int (-104)], vm := .none },
  { cls := 8, slots := #[.int (-103)], vm := .none },
  { cls := 8, slots := #[.int (-102)], vm := .none },
  { cls := 8, slots := #[.int (-101)], vm := .none },
  { cls := 8, slots := #[.int (-100)], vm := .none },
  { cls := 8, slots := #[.int (-99)], vm := .none },
  { cls := 8, slots := #[.int (-98)], vm := .none },
  { cls := 8, slots := #[.int (-97)], vm := .none },
  { cls := 8, slots := #[.int (-96)], vm := .none },
  { cls := 8, slots := #[.int (-95)], vm := .none },
  { cls := 8, slots := #[.int (-94)], vm := .none },
  { cls := 8, slots := #[.int (-93)], vm := .none },
  { cls := 8, slots := #[.int (-92)], vm := .none },
  { cls := 8, slots := #[.int (-91)], vm := .none },
  { cls := 8, slots := #[.int (-90)], vm := .none },
  { cls := 8, slots := #[.int (-89)], vm := .none },
  { cls := 8, slots := #[.int (-88)], vm := .none },
  { cls := 8, slots := #[.int (-87)], vm := .none },
  { cls := 8, slots := #[.int (-86)], vm := .none },
  { cls := 8, slots := #[.int (-85)], vm := .none },
  { cls := 8, slots := #[.int (-84)], vm := .none },
  { cls := 8, slots := #[.int (-83)], vm := .none },
  { cls := 8, slots := #[.int (-82)], vm := .none },
  { cls := 8, slots := #[.int (-81)], vm := .none },
  { cls := 8, slots := #[.int (-80)], vm := .none },
  { cls := 8, slots := #[.int (-79)], vm := .none },
  { cls := 8, slots := #[.int (-78)], vm := .none },
  { cls := 8, slots := #[.int (-77)], vm := .none },
  { cls := 8, slots := #[.int (-76)], vm := .none },
  { cls := 8, slots := #[.int (-75)], vm := .none },
  { cls := 8, slots := #[.int (-74)], vm := .none },
  { cls := 8, slots := #[.int (-73)], vm := .none },
  { cls := 8, slots := #[.int (-72)], vm := .none },
  { cls := 8, slots := #[.int (-71)], vm := .none },
  { cls := 8, slots := #[.int (-70)], vm := .none },
  { cls := 8, slots := #[.int (-69)], vm := .none },
  { cls := 8, slots := #[.int (-68)], vm := .none },
  { cls := 8, slots := #[.int (-67)], vm := .none },
  { cls := 8, slots := #[.int (-66)], vm := .none },
  { cls := 8, slots := #[.int (-65)], vm := .none },
  { cls := 8, slots := #[.int (-64)], vm := .none },
  { cls := 8, slots := #[.int (-63)], vm := .none },
  { cls := 8, slots := #[.int (-62)], vm := .none },
  { cls := 8, slots := #[.int (-61)], vm := .none },
  { cls := 8, slots := #[.int (-60)], vm := .none },
  { cls := 8, slots := #[.int (-59)], vm := .none },
  { cls := 8, slots := #[.int (-58)], vm := .none },
  { cls := 8, slots := #[.int (-57)], vm := .none },
  { cls := 8, slots := #[.int (-56)], vm := .none },
  { cls := 8, slots := #[.int (-55)], vm := .none },
  { cls := 8, slots := #[.int (-54)], vm := .none },
  { cls := 8, slots := #[.int (-53)], vm := .none },
  { cls := 8, slots := #[.int (-52)], vm := .none },
  { cls := 8, slots := #[.int (-51)], vm := .none },
  { cls := 8, slots := #[.int (-50)], vm := .none },
  { cls := 8, slots := #[.int (-49)], vm := .none },
  { cls := 8, slots := #[.int (-48)], vm := .none },
  { cls := 8, slots := #[.int (-47)], vm := .none },
  { cls := 8, slots := #[.int (-46)], vm := .none },
  { cls := 8, slots := #[.int (-45)], vm := .none },
  { cls := 8, slots := #[.int (-44)], vm := .none },
  { cls := 8, slots := #[.int (-43)], vm := .none },
  { cls := 8, slots := #[.int (-42)], vm := .none },
  { cls := 8, slots := #[.int (-41)], vm := .none },
  { cls := 8, slots := #[.int (-40)], vm := .none },
  { cls := 8, slots := #[.int (-39)], vm := .none },
  { cls := 8, slots := #[.int (-38)], vm := .none },
  { cls := 8, slots := #[.int (-37)], vm := .none },
  { cls := 8, slots := #[.int (-36)], vm := .none },
  { cls := 8, slots := #[.int (-35)], vm := .none },
  { cls := 8, slots := #[.int (-34)], vm := .none },
  { cls := 8, slots := #[.int (-33)], vm := .none },
  { cls := 8, slots := #[.int (-32)], vm := .none },
  { cls := 8, slots := #[.int (-31)], vm := .none },
  { cls := 8, slots := #[.int (-30)], vm := .none },
  { cls := 8, slots := #[.int (-29)], vm := .none },
  { cls := 8, slots := #[.int (-28)], vm := .none },
  { cls := 8, slots := #[.int (-27)], vm := .none },
  { cls := 8, slots := #[.int (-26)], vm := .none },
  { cls := 8, slots := #[.int (-25)], vm := .none },
  { cls := 8, slots := #[.int (-24)], vm := .none },
  { cls := 8, slots := #[.int (-23)], vm := .none },
  { cls := 8, slots := #[.int (-22)], vm := .none },
  { cls := 8, slots := #[.int (-21)], vm := .none },
  { cls := 8, slots := #[.int (-20)], vm := .none },
  { cls := 8, slots := #[.int (-19)], vm := .none },
  { cls := 8, slots := #[.int (-18)], vm := .none },
  { cls := 8, slots := #[.int (-17)], vm := .none },
  { cls := 8, slots := #[.int (-16)], vm := .none },
  { cls := 8, slots := #[.int (-15)], vm := .none },
  { cls := 8, slots := #[.int (-14)], vm := .none },
  { cls := 8, slots := #[.int (-13)], vm := .none },
  { cls := 8, slots := #[.int (-12)], vm := .none },
  { cls := 8, slots := #[.int (-11)], vm := .none },
  { cls := 8, slots := #[.int (-10)], vm := .none },
  { cls := 8, slots := #[.int (-9)], vm := .none },
  { cls := 8, slots := #[.int (-8)], vm := .none },
  { cls := 8, slots := #[.int (-7)], vm := .none },
  { cls := 8, slots := #[.int (-6)], vm := .none },
  { cls := 8, slots := #[.int (-5)], vm := .none },
  { cls := 8, slots := #[.int (-4)], vm := .none },
  { cls := 8, slots := #[.int (-3)], vm := .none },
  { cls := 8, slots := #[.int (-2)], vm := .none },
  { cls := 8, slots := #[.int (-1)], vm := .none },
  { cls := 8, slots := #[.int 0], vm := .none },
  { cls := 8, slots := #[.int 1], vm := .none },
  { cls := 8, slots := #[.int 2], vm := .none },
  { cls := 8, slots := #[.int 3], vm := .none },
  { cls := 8, slots := #[.int 4], vm := .none },
  { cls := 8, slots := #[.int 5], vm := .none },
  { cls := 8, slots := #[.int 6], vm := .none },
  { cls := 8, slots := #[.int 7], vm := .none },
  { cls := 8, slots := #[.int 8], vm := .none },
  { cls := 8, slots := #[.int 9], vm := .none },
  { cls := 8, slots := #[.int 10], vm := .none },
  { cls := 8, slots := #[.int 11], vm := .none },
  { cls := 8, slots := #[.int 12], vm := .none },
  { cls := 8, slots := #[.int 13], vm := .none },
  { cls := 8, slots := #[.int 14], vm := .none },
  { cls := 8, slots := #[.int 15], vm := .none },
  { cls := 8, slots := #[.int 16], vm := .none },
  { cls := 8, slots := #[.int 17], vm := .none },
  { cls := 8, slots := #[.int 18], vm := .none },
  { cls := 8, slots := #[.int 19], vm := .none },
  { cls := 8, slots := #[.int 20], vm := .none },
  { cls := 8, slots := #[.int 21], vm := .none },
  { cls := 8, slots := #[.int 22], vm := .none },
  { cls := 8, slots := #[.int 23], vm := .none },
  { cls := 8, slots := #[.int 24], vm := .none },
  { cls := 8, slots := #[.int 25], vm := .none },
  { cls := 8, slots := #[.int 26], vm := .none },
  { cls := 8, slots := #[.int 27], vm := .none },
  { cls := 8, slots := #[.int 28], vm := .none },
  { cls := 8, slots := #[.int 29], vm := .none },
  { cls := 8, slots := #[.int 30], vm := .none },
  { cls := 8, slots := #[.int 31], vm := .none },
  { cls := 8, slots := #[.int 32], vm := .none },
  { cls := 8, slots := #[.int 33], vm := .none },
  { cls := 8, slots := #[.int 34], vm := .none },
  { cls := 8, slots := #[.int 35], vm := .none },
  { cls := 8, slots := #[.int 36], vm := .none },
  { cls := 8, slots := #[.int 37], vm := .none },
  { cls := 8, slots := #[.int 38], vm := .none },
  { cls := 8, slots := #[.int 39], vm := .none },
  { cls := 8, slots := #[.int 40], vm := .none },
  { cls := 8, slots := #[.int 41], vm := .none },
  { cls := 8, slots := #[.int 42], vm := .none },
  { cls := 8, slots := #[.int 43], vm := .none },
  { cls := 8, slots := #[.int 44], vm := .none },
  { cls := 8, slots := #[.int 45], vm := .none },
  { cls := 8, slots := #[.int 46], vm := .none },
  { cls := 8, slots := #[.int 47], vm := .none },
  { cls := 8, slots := #[.int 48], vm := .none },
  { cls := 8, slots := #[.int 49], vm := .none },
  { cls := 8, slots := #[.int 50], vm := .none },
  { cls := 8, slots := #[.int 51], vm := .none },
  { cls := 8, slots := #[.int 52], vm := .none },
  { cls := 8, slots := #[.int 53], vm := .none },
  { cls := 8, slots := #[.int 54], vm := .none },
  { cls := 8, slots := #[.int 55], vm := .none },
  { cls := 8, slots := #[.int 56], vm := .none },
  { cls := 8, slots := #[.int 57], vm := .none },
  { cls := 8, slots := #[.int 58], vm := .none },
  { cls := 8, slots := #[.int 59], vm := .none },
  { cls := 8, slots := #[.int 60], vm := .none },
  { cls := 8, slots := #[.int 61], vm := .none },
  { cls := 8, slots := #[.int 62], vm := .none },
  { cls := 8, slots := #[.int 63], vm := .none },
  { cls := 8, slots := #[.int 64], vm := .none },
  { cls := 8, slots := #[.int 65], vm := .none },
  { cls := 8, slots := #[.int 66], vm := .none },
  { cls := 8, slots := #[.int 67], vm := .none },
  { cls := 8, slots := #[.int 68], vm := .none },
  { cls := 8, slots := #[.int 69], vm := .none },
  { cls := 8, slots := #[.int 70], vm := .none },
  { cls := 8, slots := #[.int 71], vm := .none },
  { cls := 8, slots := #[.int 72], vm := .none },
  { cls := 8, slots := #[.int 73], vm := .none },
  { cls := 8, slots := #[.int 74], vm := .none },
  { cls := 8, slots := #[.int 75], vm := .none },
  { cls := 8, slots := #[.int 76], vm := .none },
  { cls := 8, slots := #[.int 77], vm := .none },
  { cls := 8, slots := #[.int 78], vm := .none },
  { cls := 8, slots := #[.int 79], vm := .none },
  { cls := 8, slots := #[.int 80], vm := .none },
  { cls := 8, slots := #[.int 81], vm := .none },
  { cls := 8, slots := #[.int 82], vm := .none },
  { cls := 8, slots := #[.int 83], vm := .none },
  { cls := 8, slots := #[.int 84], vm := .none },
  { cls := 8, slots := #[.int 85], vm := .none },
  { cls := 8, slots := #[.int 86], vm := .none },
  { cls := 8, slots := #[.int 87], vm := .none },
  { cls := 8, slots := #[.int 88], vm := .none },
  { cls := 8, slots := #[.int 89], vm := .none },
  { cls := 8, slots := #[.int 90], vm := .none },
  { cls := 8, slots := #[.int 91], vm := .none },
  { cls := 8, slots := #[.int 92], vm := .none },
  { cls := 8, slots := #[.int 93], vm := .none },
  { cls := 8, slots := #[.int 94], vm := .none },
  { cls := 8, slots := #[.int 95], vm := .none },
  { cls := 8, slots := #[.int 96], vm := .none },
  { cls := 8, slots := #[.int 97], vm := .none },
  { cls := 8, slots := #[.int 98], vm := .none },
  { cls := 8, slots := #[.int 99], vm := .none },
  { cls := 8, slots := #[.int 100], vm := .none },
  { cls := 8, slots := #[.int 101], vm := .none },
  { cls := 8, slots := #[.int 102], vm := .none },
  { cls := 8, slots := #[.int 103], vm := .none },
  { cls := 8, slots := #[.int 104], vm := .none },
  { cls := 8, slots := #[.int 105], vm := .none },
  { cls := 8, slots := #[.int 106], vm := .none },
  { cls := 8, slots := #[.int 107], vm := .none },
  { cls := 8, slots := #[.int 108], vm := .none },
  { cls := 8, slots := #[.int 109], vm := .none },
  { cls := 8, slots := #[.int 110], vm := .none },
  { cls := 8, slots := #[.int 111], vm := .none },
  { cls := 8, slots := #[.int 112], vm := .none },
  { cls := 8, slots := #[.int 113], vm := .none },
  { cls := 8, slots := #[.int 114], vm := .none },
  { cls := 8, slots := #[.int 115], vm := .none },
  { cls := 8, slots := #[.int 116], vm := .none },
  { cls := 8, slots := #[.int 117], vm := .none },
  { cls := 8, slots := #[.int 118], vm := .none },
  { cls := 8, slots := #[.int 119], vm := .none },
  { cls := 8, slots := #[.int 120], vm := .none },
  { cls := 8, slots := #[.int 121], vm := .none },
  { cls := 8, slots := #[.int 122], vm := .none },
  { cls := 8, slots := #[.int 123], vm := .none },
  { cls := 8, slots := #[.int 124], vm := .none },
  { cls := 8, slots := #[.int 125], vm := .none },
  { cls := 8, slots := #[.int 126], vm := .none },
  { cls := 8, slots := #[.int 127], vm := .none }]
def classes : Array Class := #[k0, k1, k2, k3, k4, k5, k6, k7, k8, k9, k10, k11, k12, k13, k14, k15]
def interned : List (Array UInt16 × Addr) := []
def slotsUsed : Nat := 517
def theMethod : MethodId := ⟨1, 1⟩
def args0 : Array Value := #[.int 5, .int 5, .int 5]
def aboutOver (below : List Frame) : State where
  vm := { classes := classes, interned := interned.toArray }
  heap := heap
  slotsUsed := slotsUsed
  threads := #[{ frames := .invoking theMethod args0 :: below }]
def below0 : List Frame := [.native { method := ⟨0, 0⟩, args := #[] }]
def about1 : State := aboutOver below0
def p0 : Program := .bare "" "" ""
def e0 : Env := launch0.env 0 0 0
theorem w_frames : about1.frames = Frame.invoking theMethod args0 :: below0 := rfl
set_option maxRecDepth 65536 in
theorem w_args : argsFit about1.vm theMethod args0 = true := by decide +kernel
set_option maxRecDepth 65536 in
theorem w_heap : heapFits about1 = true := by decide +kernel
set_option maxRecDepth 65536 in
theorem w_runnable : about1.curStatus? = some .runnable := by decide +kernel
set_option maxRecDepth 65536 in
theorem w_alone : about1.alone = true := by decide +kernel
set_option maxRecDepth 65536 in
theorem w_named : about1.methodNamed? x = some theMethod := by decide +kernel
set_option maxRecDepth 65536 in
theorem w_hears : about1.hears theMethod below0 = true := by decide +kernel
set_option maxRecDepth 65536 in
theorem w_ripe : about1.ripe theMethod args0 below0 = true := by decide +kernel
theorem w_running : about1.status = .running := rfl
set_option maxRecDepth 65536 in
theorem w_room : about1.hasRoom e0.platform room_1 = true :=
  launch0.hasRoom_least _ room_1 (by decide +kernel) (by decide +kernel) (by decide +kernel) (by decide +kernel) (by decide +kernel) (by decide +kernel)
theorem allAtoms_all (ts : List Jvm.Cond) (a : Array Jvm.Value) (st : Jvm.State) : (allAtoms ts).before a st = ts.all (fun c => c.before a st) := by
  induction ts with
  | nil => rfl
  | cons c t ih =>
    show (Jvm.Cond.and c (allAtoms t)).before a st = _
    rw [Jvm.Cond.before_and, ih, List.all_cons]
def words1 : List Jvm.Cond := Jvm.Cond.code x code maxLocals ret :: tables_1
/-- a 'code' word, met by the world's own term for the bytes: nothing is compared byte by byte -/
theorem code_word {y : MethodName} {bytes : ByteArray} {mx : Nat} {rt : Option FieldType} {a : Array Value} {s : State} {m : MethodId} {meth : Method} {c : Code} (h1 : s.methodNamed? y = some m) (h2 : s.vm.method? m = some meth) (h3 : meth.code = some c) (h4 : c.code = bytes)
    (h5 : (c.maxLocals == mx && c.exceptionTable.isEmpty && decide (c.maxStack ≤ mostOperands) && decide (meth.sig.returnType = rt) && !meth.locks && decide (parseMethodDescriptor y.desc = some meth.sig)) = true) : (Jvm.Cond.code y bytes mx rt).before a s = true := by
  simp only [Bool.and_eq_true, beq_iff_eq, Bool.not_eq_true', decide_eq_true_eq] at h5
  obtain ⟨⟨⟨⟨⟨g1, g2⟩, g3⟩, g4⟩, g5⟩, g6⟩ := h5
  simp [Cond.before, Cond.holds, Cond.value, h1, h2, h3, h4, g1, g2, g3, g4, g5, g6]
def isCode : Jvm.Cond → Bool
  | .code _ _ _ _ => true
  | _ => false
theorem all_split {L : List Jvm.Cond} {P : Jvm.Cond → Bool} (h1 : L.all (fun c => isCode c || P c) = true) (h2 : ∀ c ∈ L.filter isCode, P c = true) : L.all P = true := by
  refine List.all_eq_true.mpr fun c hc => ?_
  have h := List.all_eq_true.mp h1 c hc
  rcases Bool.eq_false_or_eq_true (isCode c) with hi | hi
  · exact h2 c (List.mem_filter.mpr ⟨hc, hi⟩)
  · simpa [hi] using h
set_option maxRecDepth 65536 in
theorem w_c0 : (Jvm.Cond.code x code maxLocals ret).before args0 about1 = true := code_word (m := ⟨1, 1⟩) (meth := k1m1) (c := k1c1) (by decide +kernel) rfl rfl rfl (by decide +kernel)
set_option maxRecDepth 65536 in
theorem w_c1 : (Jvm.Cond.code ({ cls := "com/example/gated_chorus/gatedchorus/gate/Standing", name := "<init>", desc := "(ZI)V" } : Jvm.MethodName) prog_12_method_1_code (3 : Nat) (Option.none : Option Jvm.ClassFile.FieldType)).before args0 about1 = true := code_word (m := ⟨2, 0⟩) (meth := k2m0) (c := k2c0) (by decide +kernel) rfl rfl rfl (by decide +kernel)
set_option maxRecDepth 65536 in
theorem w_c2 : (Jvm.Cond.code ({ cls := "java/lang/Object", name := "<init>", desc := "()V" } : Jvm.MethodName) object_method_1_code (1 : Nat) (Option.none : Option Jvm.ClassFile.FieldType)).before args0 about1 = true := code_word (m := ⟨0, 0⟩) (meth := k0m0) (c := k0c0) (by decide +kernel) rfl rfl rfl (by decide +kernel)
set_option maxRecDepth 65536 in
theorem w_c3 : (Jvm.Cond.code ({ cls := "com/example/gated_chorus/gatedchorus/gate/Standing", name := "equals", desc := "(Ljava/lang/Object;)Z" } : Jvm.MethodName) prog_12_method_3_code (3 : Nat) (Option.some Jvm.ClassFile.FieldType.boolean)).before args0 about1 = true := code_word (m := ⟨2, 1⟩) (meth := k2m1) (c := k2c1) (by decide +kernel) rfl rfl rfl (by decide +kernel)
set_option maxRecDepth 65536 in
theorem w_c4 : (Jvm.Cond.code ({ cls := "java/lang/Integer", name := "valueOf", desc := "(I)Ljava/lang/Integer;" } : Jvm.MethodName) jdk_33_method_22_code (1 : Nat) (Option.some (Jvm.ClassFile.FieldType.object "java/lang/Integer"))).before args0 about1 = true := code_word (m := ⟨8, 0⟩) (meth := k8m0) (c := k8c0) (by decide +kernel) rfl rfl rfl (by decide +kernel)
set_option maxRecDepth 65536 in
theorem w_c5 : (Jvm.Cond.code ({ cls := "java/lang/Integer", name := "<init>", desc := "(I)V" } : Jvm.MethodName) jdk_33_method_23_code (2 : Nat) (Option.none : Option Jvm.ClassFile.FieldType)).before args0 about1 = true := code_word (m := ⟨8, 1⟩) (meth := k8m1) (c := k8c1) (by decide +kernel) rfl rfl rfl (by decide +kernel)
set_option maxRecDepth 65536 in
theorem w_c6 : (Jvm.Cond.code ({ cls := "java/lang/Number", name := "<init>", desc := "()V" } : Jvm.MethodName) jdk_18_method_1_code (1 : Nat) (Option.none : Option Jvm.ClassFile.FieldType)).before args0 about1 = true := code_word (m := ⟨4, 0⟩) (meth := k4m0) (c := k4c0) (by decide +kernel) rfl rfl rfl (by decide +kernel)
def codes1 : List Jvm.Cond := [Jvm.Cond.code x code maxLocals ret, Jvm.Cond.code ({ cls := "com/example/gated_chorus/gatedchorus/gate/Standing", name := "<init>", desc := "(ZI)V" } : Jvm.MethodName) prog_12_method_1_code (3 : Nat) (Option.none : Option Jvm.ClassFile.FieldType), Jvm.Cond.code ({ cls := "java/lang/Object", name := "<init>", desc := "()V" } : Jvm.MethodName) object_method_1_code (1 : Nat) (Option.none : Option Jvm.ClassFile.FieldType), Jvm.Cond.code ({ cls := "com/example/gated_chorus/gatedchorus/gate/Standing", name := "equals", desc := "(Ljava/lang/Object;)Z" } : Jvm.MethodName) prog_12_method_3_code (3 : Nat) (Option.some Jvm.ClassFile.FieldType.boolean), Jvm.Cond.code ({ cls := "java/lang/Integer", name := "valueOf", desc := "(I)Ljava/lang/Integer;" } : Jvm.MethodName) jdk_33_method_22_code (1 : Nat) (Option.some (Jvm.ClassFile.FieldType.object "java/lang/Integer")), Jvm.Cond.code ({ cls := "java/lang/Integer", name := "<init>", desc := "(I)V" } : Jvm.MethodName) jdk_33_method_23_code (2 : Nat) (Option.none : Option Jvm.ClassFile.FieldType), Jvm.Cond.code ({ cls := "java/lang/Number", name := "<init>", desc := "()V" } : Jvm.MethodName) jdk_18_method_1_code (1 : Nat) (Option.none : Option Jvm.ClassFile.FieldType)]
set_option maxRecDepth 65536 in
theorem codes_eq : words1.filter isCode = codes1 := rfl
theorem w_codes : ∀ c ∈ words1.filter isCode, c.before args0 about1 = true := by
  rw [codes_eq]
  intro c hc
  simp only [codes1, List.mem_cons, List.not_mem_nil, or_false] at hc
  rcases hc with rfl | rfl | rfl | rfl | rfl | rfl | rfl
  · exact w_c0
  · exact w_c1
  · exact w_c2
  · exact w_c3
  · exact w_c4
  · exact w_c5
  · exact w_c6
set_option maxRecDepth 65536 in
theorem w_t1 : (words1.take 24).all (fun c => isCode c || c.before args0 about1) = true := by decide +kernel
set_option maxRecDepth 65536 in
theorem w_t2 : (words1.drop 24).all (fun c => isCode c || c.before args0 about1) = true := by decide +kernel
theorem w_tables : (allAtoms (Jvm.Cond.code x code maxLocals ret :: tables_1)).before args0 about1 = true := by
  rw [allAtoms_all]
  show words1.all (fun c => c.before args0 about1) = true
  refine all_split ?_ w_codes
  rw [← List.take_append_drop 24 words1, List.all_append, w_t1, w_t2]
  rfl
set_option maxRecDepth 65536 in
theorem w_rest : rest_1_c.before args0 about1 = true := by decide +kernel
set_option maxRecDepth 65536 in
theorem w_case : (Jvm.Cond.and given_1 narrow_1).before args0 about1 = true := by decide +kernel
theorem w_applies : (headSpec (Jvm.Cond.code x code maxLocals ret :: tables_1) room_1).applies x e0.platform about1 = true :=
  (Spec.applies_iff w_frames).mpr ⟨w_running, w_runnable, w_alone, w_named, w_hears, w_ripe, w_room, w_tables⟩
theorem atStart : AtStart classFile x code maxLocals ret World_1 tables_1 room_1 Calls_1 rest_1 Pre_1 launch0 p0 e0 about1 theMethod args0 below0 :=
  ⟨lists_1, trivial, launch0.admits_env _ _ _, launch0.least_env, fairChoices_fair.cas, fairChoices_fair.clock, w_frames, w_args, w_heap, w_applies, trivial, w_rest, w_case⟩
end start1
theorem witness_1 : WitnessClaimed_1 := ⟨start1.p0, start1.e0, start1.about1, start1.theMethod, start1.args0, start1.below0, start1.atStart⟩
end Jvm.Pilot.@@N@@
