import JvmDerived
import JvmDerived.Pilot.@@N@@Statement
import JvmDerived.Pilot.@@N@@Code
set_option linter.unusedVariables false
set_option linter.unusedSimpArgs false
namespace Jvm.RoadKit
open Sem ClassFile Op Lib Jvm.Stand Jvm.Free Jvm.LawKit
section New
variable {p : Program} {l : Launch} {e : Env} {R : Room} {s : State} {m : MethodId} {args : Array Value} {below : List Frame} {meth : Method} {c : Code} {T : State} {locs : List Loc} {cells slots : Nat}
theorem retI (X : Stand p l e R s m args below meth c T locs cells slots) (hx : p.tables.exec = Jvm.exec) {pc : Nat} {Ls : Array Slot} {z : Int32} {rest : List Value} (hret : meth.sig.returnType = some .int) (hd : decode c.code pc = .ok (.ireturn, 1)) {fs : List Frame}
    (hl : ∀ (f : JFrame) (acts : List Action), f.method = m → f.locked = none → f.entered = [] → (doReturn e (T.setTop f) acts (some (.int z))).1 = T.setFrames fs) : Steps p.tables e below (T.setTop (mkF m pc Ls (.int z :: rest))) (T.setFrames fs) := by
  have hm' : T.vm.method? m = some meth := X.method'
  have hn : narrow .int (.int z) = .int z := rfl
  show Steps p.tables e below (T.setTop { method := m, pc := pc, locals := Ls, stack := _ :: rest, locked := none }) _
  jvm_step X.here [X.here.top, hx, hd, hm', hret, hn]
  first | (intro acts; rw [hl _ acts rfl rfl rfl]) | rw [hl _ _ rfl rfl rfl]
  exact Steps.refl _
end New
variable {Z : State} {h h' : Heap} {C n d : String} {v w : Value} {ws : List Addr}
theorem own_staKeep (F : Sta Z h C n d v) (K : Keep h h' ws) (q : ∀ x ∈ ws, ∀ c : Cell, h[x]? = some c → c.vm.isStatics = false) : Sta Z h' C n d v := by
  obtain ⟨cf, i, k, f, st, cell, h1, h2, h3, h4, h5, h6, h7⟩ := F
  refine ⟨cf, i, k, f, st, cell, h1, h2, h3, h4, K.2.1 _ _ h5 (fun r => ?_), h6, h7⟩
  rw [q _ r _ h5] at h6; cases h6
theorem own_staNew {n0 : Nat} (F : Sta Z h C n d v) (K : Keep h h' ws) (hn : ∀ x ∈ ws, n0 ≤ x) (hs : ∀ (x : Addr) (c : Cell), h[x]? = some c → c.vm.isStatics = true → x < n0) : Sta Z h' C n d v := by
  obtain ⟨cf, i, k, f, st, cell, h1, h2, h3, h4, h5, h6, h7⟩ := F
  exact ⟨cf, i, k, f, st, cell, h1, h2, h3, h4, K.2.1 _ _ h5 (fun r => absurd (hs _ _ h5 h6) (Nat.not_lt.mpr (hn _ r))), h6, h7⟩
theorem own_fldI {args : Array Value} {s : State} {t : Term} {a : Addr} {C n d : String} {k : Int32} (ht : t.eval args s none [] s = some (.ref a)) (h : (Cond.eq (.field t C n d) (.int k)).value args s none s [] = some true) : Fld s s.heap a C n d (.int k) := Fld.start ((fld_at ht).symm.trans (eqv_i rfl h))
theorem own_fldR {args : Array Value} {s : State} {t u : Term} {a b : Addr} {C n d : String} (ht : t.eval args s none [] s = some (.ref a)) (hu : u.eval args s none [] s = some (.ref b)) (h : (Cond.eq (.field t C n d) u).value args s none s [] = some true) : Fld s s.heap a C n d (.ref b) := by
  obtain ⟨x, y, ex, ey, kx, ky⟩ := cmp_v (Or.inl h)
  have e1 : s.fieldOf? a C n d = some x := by rw [← fld_at ht]; exact ex
  cases hu.symm.trans ey
  have q : x = .ref b := by
    cases x <;> simp [Cond.value, ex, hu] at h ⊢
    exact h
  exact Fld.start (by rw [e1, q])
theorem own_staL {args : Array Value} {s : State} {C n d : String} {k : Int64} (h : (Cond.eq (.static C n d) (.long k)).value args s none s [] = some true) : (Term.static C n d).eval args s none [] s = some (.long k) := eqv_l rfl h
end Jvm.RoadKit
namespace Jvm.Pilot.@@N@@
open Jvm Jvm.ClassFile Sem Op Lib Jvm.Free Jvm.Stand Jvm.LawKit Jvm.RoadKit Bundle Jvm.Pilot.@@N@@.Jvm.D
theorem pd__II_V : parseMethodDescriptor "(II)V" = some ⟨[.int, .int], none⟩ := by decide +kernel
theorem pd__II_I : parseMethodDescriptor "(II)I" = some ⟨[.int, .int], some .int⟩ := by decide +kernel
theorem pd___Z : parseMethodDescriptor "()Z" = some ⟨[], some .boolean⟩ := by decide +kernel
theorem pd__I_Lcom_example_notate_notate_schema_NumberRange_ : parseMethodDescriptor "(I)Lcom/example/notate/notate/schema/NumberRange;" = some ⟨[.int], some (.object "com/example/notate/notate/schema/NumberRange")⟩ := by decide +kernel
def own_min (a b : Int32) : Int32 := if b < a then b else a
def own_max (a b : Int32) : Int32 := if a < b then b else a
def own_sing (a b : Int32) : Int32 := if a = b then 1 else 0
theorem own_mm (a b : Int32) : ¬ (own_max a b < own_min a b) := by
  unfold own_min own_max
  simp only [Int32.lt_iff_toInt_lt]
  split <;> split <;> omega
theorem own_cnt (a b : Int32) : ((b.toInt64 - a.toInt64) + (1 : Int64) = (1 : Int64)) ↔ a = b := by
  have h1 := c_ladd (b.toInt64 - a.toInt64) 1
  have h2 := c_lsub b.toInt64 a.toInt64
  have h3 := c_i2l a
  have h4 := c_i2l b
  have h5 := rng32 a
  have h6 := rng32 b
  have h7 : (1 : Int64).toInt = 1 := rfl
  have h8 := rng64 ((b.toInt64 - a.toInt64) + 1)
  have h9 := rng64 (b.toInt64 - a.toInt64)
  rw [← Int64.toInt_inj, ← Int32.toInt_inj]
  constructor <;> intro h <;> omega
theorem own_succ (a : Int32) (h : ¬ a = (2147483647 : Int32)) : ¬ (a + (1 : Int32) < a) ∧ ¬ a = a + (1 : Int32) := by
  have h1 := c_iadd a 1
  have h5 := rng32 a
  have h6 := rng32 (a + 1)
  have h7 : (1 : Int32).toInt = 1 := rfl
  have h8 : (2147483647 : Int32).toInt = 2147483647 := rfl
  rw [← Int32.toInt_inj] at h
  rw [Int32.lt_iff_toInt_lt, ← Int32.toInt_inj]
  omega
theorem d1_0 : decode jdk_29_method_69_code 0 = .ok (.iload_n 0, 1) := by decide +kernel
theorem d1_1 : decode jdk_29_method_69_code 1 = .ok (.iload_n 1, 1) := by decide +kernel
theorem d1_2 : decode jdk_29_method_69_code 2 = .ok (.if_icmp .gt 7, 3) := by decide +kernel
theorem d1_5 : decode jdk_29_method_69_code 5 = .ok (.iload_n 0, 1) := by decide +kernel
theorem d1_6 : decode jdk_29_method_69_code 6 = .ok (.goto 4, 3) := by decide +kernel
theorem d1_9 : decode jdk_29_method_69_code 9 = .ok (.iload_n 1, 1) := by decide +kernel
theorem d1_10 : decode jdk_29_method_69_code 10 = .ok (.ireturn, 1) := by decide +kernel
theorem ef_1 (m : MethodId) (x0 : Int32) (x1 : Int32) : entryFrame m #[(.int x0), (.int x1)] 2 = mkF m 0 #[.val (.int x0), .val (.int x1)] [] := by first | (simp [entryFrame, mkF, argsToLocals, Value.category]; done) | rfl
def Q_1 (Z : State) (p1 : Int32) (p2 : Int32) (r : Int32) (h0 : Heap) (n0 : Nat) (v : Option Value) (h : Heap) (L : List Loc) : Prop := v = some (.int r) ∧ Fr n0 L ∧ h = h0
set_option maxRecDepth 65536 in
set_option maxHeartbeats 40000000 in
theorem rm_1 (l : Launch) (Z : State) (a0 : Array Value) (hw : ∀ d ∈ tables_1, d.before a0 Z = true) (ws : List Jvm.Cond) (p1 : Int32) (p2 : Int32) (r : Int32) (h0 : Heap) (n0 : Nat) (Z0 : n0 ≤ h0.size) (hsp : own_min p1 p2 = r) :
    MetFree l (⟨"java/lang/Math", "min", "(II)I"⟩ : MethodName) (head1 (Jvm.Cond.code (⟨"java/lang/Math", "min", "(II)I"⟩ : MethodName) jdk_29_method_69_code 2 (some .int) :: ws) ({ frames := 0, cells := 0, slots := 0, locals := 0 } : Room)) (fun a U => a = #[(.int p1), (.int p2)] ∧ Z.Warmed39 U.vm ∧ U.heap = h0) (fun _ _ _ _ _ => True) (fun _ U o U' => ∃ v L, o = .returned v ∧ Q_1 Z p1 p2 r h0 n0 v U'.heap L ∧ FrameEnd U o U' L ({ frames := 0, cells := 0, slots := 0, locals := 0 } : Room).cells ({ frames := 0, cells := 0, slots := 0, locals := 0 } : Room).slots) := by
  refine MetFree.of_bodySF (Jvm.Free.JP.mathPlain rfl (by decide +kernel)) hisR ?_
  intro p e s m args below meth c s₁ Bd hml0 hP hK
  obtain ⟨rfl, hZ, hh⟩ := hP
  have hx := Bd.exec
  have hby := Bd.bytes
  have hml : c.maxLocals = 2 := hml0
  have hown : s.vm.findClass "java/lang/Math" = some m.cls := findClass_of_methodNamed Bd.named
  have hnm := (name_of_methodNamed Bd.named Bd.method).1
  have X0 : Stand p l e ({ frames := 0, cells := 0, slots := 0, locals := 0 } : Room) s m #[(.int p1), (.int p2)] below meth c s₁ [] 0 0 := Stand.of_body Bd
  have e0 : s₁.heap = h0 := by rw [← hh, Bd.state]; rfl
  have N0 := Fr.nil n0
  have pw0 : ∀ t, Steps p.tables e below (s₁.setTop (mkF m 0 #[.val (.int p1), .val (.int p2)] [])) t → Steps p.tables e below (s₁.setTop (entryFrame m #[(.int p1), (.int p2)] 2)) t := fun t k => castTop (ef_1 m p1 p2) k
  have K0 : Keep h0 h0 [] := Keep.refl h0 []
  have pw1 : ∀ t, Steps p.tables e below (s₁.setTop (mkF m 2 #[.val (.int p1), .val (.int p2)] [(.int p2), (.int p1)])) t → Steps p.tables e below (s₁.setTop (entryFrame m #[(.int p1), (.int p2)] 2)) t := by
    intro t k
    refine pw0 t ?_
    refine XS.iloadN X0.here hx rfl (hb hby d1_0) rfl ?_
    show Steps p.tables e below (s₁.setTop (mkF m 1 #[.val (.int p1), .val (.int p2)] [(.int p1)])) _
    refine XS.iloadN X0.here hx rfl (hb hby d1_1) rfl ?_
    show Steps p.tables e below (s₁.setTop (mkF m 2 #[.val (.int p1), .val (.int p2)] [(.int p2), (.int p1)])) _
    exact k
  by_cases hc2 : p2 < p1
  · skip
    obtain ⟨fs, hr, hrun, hended, hW, hsame⟩ := X0.leave (v := some (.int p2)) (fun h => by rw [Bd.returns] at h; cases h)
    refine ⟨_, _, pw1 _ ?_, hrun, hended, _, _, rfl, ?_, ⟨_, rfl⟩, hW, hsame.mono (by decide) (by decide)⟩
    · skip
      refine XS.icmpYes X0.here hx rfl (pc0 := 2) (pc' := 9) rfl (hb hby d1_2) rfl (tlt hc2).2.2.1 (by decide) (by decide) ?_
      show Steps p.tables e below (s₁.setTop (mkF m 9 #[.val (.int p1), .val (.int p2)] [])) _
      refine XS.iloadN X0.here hx rfl (hb hby d1_9) rfl ?_
      show Steps p.tables e below (s₁.setTop (mkF m 10 #[.val (.int p1), .val (.int p2)] [(.int p2)])) _
      exact retI X0 hx Bd.returns (hb hby d1_10) hr
    · show Q_1 Z p1 p2 r h0 n0 _ s₁.heap _
      rw [e0]
      exact ⟨by rw [← hsp]; unfold own_min; rw [if_pos hc2], N0, rfl⟩
  · skip
    obtain ⟨fs, hr, hrun, hended, hW, hsame⟩ := X0.leave (v := some (.int p1)) (fun h => by rw [Bd.returns] at h; cases h)
    refine ⟨_, _, pw1 _ ?_, hrun, hended, _, _, rfl, ?_, ⟨_, rfl⟩, hW, hsame.mono (by decide) (by decide)⟩
    · skip
      refine XS.icmpNo X0.here hx rfl (hb hby d1_2) rfl (flt hc2).2.2.1 ?_
      show Steps p.tables e below (s₁.setTop (mkF m 5 #[.val (.int p1), .val (.int p2)] [])) _
      refine XS.iloadN X0.here hx rfl (hb hby d1_5) rfl ?_
      show Steps p.tables e below (s₁.setTop (mkF m 6 #[.val (.int p1), .val (.int p2)] [(.int p1)])) _
      refine XS.goto X0.here hx rfl (pc0 := 6) (pc' := 10) rfl (hb hby d1_6) (by decide) (by decide) ?_
      show Steps p.tables e below (s₁.setTop (mkF m 10 #[.val (.int p1), .val (.int p2)] [(.int p1)])) _
      exact retI X0 hx Bd.returns (hb hby d1_10) hr
    · show Q_1 Z p1 p2 r h0 n0 _ s₁.heap _
      rw [e0]
      exact ⟨by rw [← hsp]; unfold own_min; rw [if_neg hc2], N0, rfl⟩
theorem d2_0 : decode jdk_29_method_65_code 0 = .ok (.iload_n 0, 1) := by decide +kernel
theorem d2_1 : decode jdk_29_method_65_code 1 = .ok (.iload_n 1, 1) := by decide +kernel
theorem d2_2 : decode jdk_29_method_65_code 2 = .ok (.if_icmp .lt 7, 3) := by decide +kernel
theorem d2_5 : decode jdk_29_method_65_code 5 = .ok (.iload_n 0, 1) := by decide +kernel
theorem d2_6 : decode jdk_29_method_65_code 6 = .ok (.goto 4, 3) := by decide +kernel
theorem d2_9 : decode jdk_29_method_65_code 9 = .ok (.iload_n 1, 1) := by decide +kernel
theorem d2_10 : decode jdk_29_method_65_code 10 = .ok (.ireturn, 1) := by decide +kernel
theorem ef_2 (m : MethodId) (x0 : Int32) (x1 : Int32) : entryFrame m #[(.int x0), (.int x1)] 2 = mkF m 0 #[.val (.int x0), .val (.int x1)] [] := by first | (simp [entryFrame, mkF, argsToLocals, Value.category]; done) | rfl
def Q_2 (Z : State) (p1 : Int32) (p2 : Int32) (r : Int32) (h0 : Heap) (n0 : Nat) (v : Option Value) (h : Heap) (L : List Loc) : Prop := v = some (.int r) ∧ Fr n0 L ∧ h = h0
set_option maxRecDepth 65536 in
set_option maxHeartbeats 40000000 in
theorem rm_2 (l : Launch) (Z : State) (a0 : Array Value) (hw : ∀ d ∈ tables_1, d.before a0 Z = true) (ws : List Jvm.Cond) (p1 : Int32) (p2 : Int32) (r : Int32) (h0 : Heap) (n0 : Nat) (Z0 : n0 ≤ h0.size) (hsp : own_max p1 p2 = r) :
    MetFree l (⟨"java/lang/Math", "max", "(II)I"⟩ : MethodName) (head1 (Jvm.Cond.code (⟨"java/lang/Math", "max", "(II)I"⟩ : MethodName) jdk_29_method_65_code 2 (some .int) :: ws) ({ frames := 0, cells := 0, slots := 0, locals := 0 } : Room)) (fun a U => a = #[(.int p1), (.int p2)] ∧ Z.Warmed39 U.vm ∧ U.heap = h0) (fun _ _ _ _ _ => True) (fun _ U o U' => ∃ v L, o = .returned v ∧ Q_2 Z p1 p2 r h0 n0 v U'.heap L ∧ FrameEnd U o U' L ({ frames := 0, cells := 0, slots := 0, locals := 0 } : Room).cells ({ frames := 0, cells := 0, slots := 0, locals := 0 } : Room).slots) := by
  refine MetFree.of_bodySF (Jvm.Free.JP.mathPlain rfl (by decide +kernel)) hisR ?_
  intro p e s m args below meth c s₁ Bd hml0 hP hK
  obtain ⟨rfl, hZ, hh⟩ := hP
  have hx := Bd.exec
  have hby := Bd.bytes
  have hml : c.maxLocals = 2 := hml0
  have hown : s.vm.findClass "java/lang/Math" = some m.cls := findClass_of_methodNamed Bd.named
  have hnm := (name_of_methodNamed Bd.named Bd.method).1
  have X0 : Stand p l e ({ frames := 0, cells := 0, slots := 0, locals := 0 } : Room) s m #[(.int p1), (.int p2)] below meth c s₁ [] 0 0 := Stand.of_body Bd
  have e0 : s₁.heap = h0 := by rw [← hh, Bd.state]; rfl
  have N0 := Fr.nil n0
  have pw0 : ∀ t, Steps p.tables e below (s₁.setTop (mkF m 0 #[.val (.int p1), .val (.int p2)] [])) t → Steps p.tables e below (s₁.setTop (entryFrame m #[(.int p1), (.int p2)] 2)) t := fun t k => castTop (ef_2 m p1 p2) k
  have K0 : Keep h0 h0 [] := Keep.refl h0 []
  have pw3 : ∀ t, Steps p.tables e below (s₁.setTop (mkF m 2 #[.val (.int p1), .val (.int p2)] [(.int p2), (.int p1)])) t → Steps p.tables e below (s₁.setTop (entryFrame m #[(.int p1), (.int p2)] 2)) t := by
    intro t k
    refine pw0 t ?_
    refine XS.iloadN X0.here hx rfl (hb hby d2_0) rfl ?_
    show Steps p.tables e below (s₁.setTop (mkF m 1 #[.val (.int p1), .val (.int p2)] [(.int p1)])) _
    refine XS.iloadN X0.here hx rfl (hb hby d2_1) rfl ?_
    show Steps p.tables e below (s₁.setTop (mkF m 2 #[.val (.int p1), .val (.int p2)] [(.int p2), (.int p1)])) _
    exact k
  by_cases hc4 : p1 < p2
  · skip
    obtain ⟨fs, hr, hrun, hended, hW, hsame⟩ := X0.leave (v := some (.int p2)) (fun h => by rw [Bd.returns] at h; cases h)
    refine ⟨_, _, pw3 _ ?_, hrun, hended, _, _, rfl, ?_, ⟨_, rfl⟩, hW, hsame.mono (by decide) (by decide)⟩
    · skip
      refine XS.icmpYes X0.here hx rfl (pc0 := 2) (pc' := 9) rfl (hb hby d2_2) rfl (tlt hc4).1 (by decide) (by decide) ?_
      show Steps p.tables e below (s₁.setTop (mkF m 9 #[.val (.int p1), .val (.int p2)] [])) _
      refine XS.iloadN X0.here hx rfl (hb hby d2_9) rfl ?_
      show Steps p.tables e below (s₁.setTop (mkF m 10 #[.val (.int p1), .val (.int p2)] [(.int p2)])) _
      exact retI X0 hx Bd.returns (hb hby d2_10) hr
    · show Q_2 Z p1 p2 r h0 n0 _ s₁.heap _
      rw [e0]
      exact ⟨by rw [← hsp]; unfold own_max; rw [if_pos hc4], N0, rfl⟩
  · skip
    obtain ⟨fs, hr, hrun, hended, hW, hsame⟩ := X0.leave (v := some (.int p1)) (fun h => by rw [Bd.returns] at h; cases h)
    refine ⟨_, _, pw3 _ ?_, hrun, hended, _, _, rfl, ?_, ⟨_, rfl⟩, hW, hsame.mono (by decide) (by decide)⟩
    · skip
      refine XS.icmpNo X0.here hx rfl (hb hby d2_2) rfl (flt hc4).1 ?_
      show Steps p.tables e below (s₁.setTop (mkF m 5 #[.val (.int p1), .val (.int p2)] [])) _
      refine XS.iloadN X0.here hx rfl (hb hby d2_5) rfl ?_
      show Steps p.tables e below (s₁.setTop (mkF m 6 #[.val (.int p1), .val (.int p2)] [(.int p1)])) _
      refine XS.goto X0.here hx rfl (pc0 := 6) (pc' := 10) rfl (hb hby d2_6) (by decide) (by decide) ?_
      show Steps p.tables e below (s₁.setTop (mkF m 10 #[.val (.int p1), .val (.int p2)] [(.int p1)])) _
      exact retI X0 hx Bd.returns (hb hby d2_10) hr
    · show Q_2 Z p1 p2 r h0 n0 _ s₁.heap _
      rw [e0]
      exact ⟨by rw [← hsp]; unfold own_max; rw [if_neg hc4], N0, rfl⟩
theorem d3_0 : decode prog_55_method_1_code 0 = .ok (.aload_n 0, 1) := by decide +kernel
theorem d3_1 : decode prog_55_method_1_code 1 = .ok (.invokespecial 1, 3) := by decide +kernel
theorem d3_4 : decode prog_55_method_1_code 4 = .ok (.iload_n 2, 1) := by decide +kernel
theorem d3_5 : decode prog_55_method_1_code 5 = .ok (.iload_n 1, 1) := by decide +kernel
theorem d3_6 : decode prog_55_method_1_code 6 = .ok (.if_icmp .ge 18, 3) := by decide +kernel
theorem d3_24 : decode prog_55_method_1_code 24 = .ok (.aload_n 0, 1) := by decide +kernel
theorem d3_25 : decode prog_55_method_1_code 25 = .ok (.iload_n 1, 1) := by decide +kernel
theorem d3_26 : decode prog_55_method_1_code 26 = .ok (.putfield 16, 3) := by decide +kernel
theorem d3_29 : decode prog_55_method_1_code 29 = .ok (.aload_n 0, 1) := by decide +kernel
theorem d3_30 : decode prog_55_method_1_code 30 = .ok (.iload_n 2, 1) := by decide +kernel
theorem d3_31 : decode prog_55_method_1_code 31 = .ok (.putfield 22, 3) := by decide +kernel
theorem d3_34 : decode prog_55_method_1_code 34 = .ok (.return_, 1) := by decide +kernel
theorem ef_3 (m : MethodId) (x0 : Addr) (x1 : Int32) (x2 : Int32) : entryFrame m #[(.ref x0), (.int x1), (.int x2)] 3 = mkF m 0 #[.val (.ref x0), .val (.int x1), .val (.int x2)] [] := by first | (simp [entryFrame, mkF, argsToLocals, Value.category]; done) | rfl
theorem pn_com_example_notate_notate_schema_NumberRange : plainName "com/example/notate/notate/schema/NumberRange" = true := by first | (simp [plainName, overriddenIn]; done) | decide +kernel
def Q_3 (Z : State) (a1 : Addr) (p2 : Int32) (p3 : Int32) (u1 u2 : Value) (h0 : Heap) (n0 : Nat) (v : Option Value) (h : Heap) (L : List Loc) : Prop := v = none ∧ Fr n0 L ∧ Keep h0 h [a1] ∧ Exa Z h a1 "com/example/notate/notate/schema/NumberRange" ∧ Fld Z h a1 "com/example/notate/notate/schema/NumberRange" "first" "I" (.int p2) ∧ Fld Z h a1 "com/example/notate/notate/schema/NumberRange" "last" "I" (.int p3)
set_option maxRecDepth 65536 in
set_option maxHeartbeats 40000000 in
theorem rm_3 (l : Launch) (Z : State) (a0 : Array Value) (hw : ∀ d ∈ tables_1, d.before a0 Z = true) (ws : List Jvm.Cond) (a1 : Addr) (p2 : Int32) (p3 : Int32) (u1 u2 : Value) (h0 : Heap) (n0 : Nat) (Z0 : n0 ≤ h0.size) (E_a1 : Exa Z h0 a1 "com/example/notate/notate/schema/NumberRange") (F_first : Fld Z h0 a1 "com/example/notate/notate/schema/NumberRange" "first" "I" u1) (F_last : Fld Z h0 a1 "com/example/notate/notate/schema/NumberRange" "last" "I" u2) (g_a1 : n0 ≤ a1) (hle : ¬ (p3 < p2)) :
    MetFree l (⟨"com/example/notate/notate/schema/NumberRange", "<init>", "(II)V"⟩ : MethodName) (head1 (Jvm.Cond.code (⟨"com/example/notate/notate/schema/NumberRange", "<init>", "(II)V"⟩ : MethodName) prog_55_method_1_code 3 none :: ws) ({ frames := 1, cells := 0, slots := 0, locals := 12 } : Room)) (fun a U => a = #[(.ref a1), (.int p2), (.int p3)] ∧ Z.Warmed39 U.vm ∧ U.heap = h0) (fun _ _ _ _ _ => True) (fun _ U o U' => ∃ v L, o = .returned v ∧ Q_3 Z a1 p2 p3 u1 u2 h0 n0 v U'.heap L ∧ FrameEnd U o U' L ({ frames := 1, cells := 0, slots := 0, locals := 12 } : Room).cells ({ frames := 1, cells := 0, slots := 0, locals := 12 } : Room).slots) := by
  refine MetFree.of_bodySF (plainFor_of_name pn_com_example_notate_notate_schema_NumberRange) hisR ?_
  intro p e s m args below meth c s₁ Bd hml0 hP hK
  obtain ⟨rfl, hZ, hh⟩ := hP
  have hx := Bd.exec
  have hby := Bd.bytes
  have hml : c.maxLocals = 3 := hml0
  have hown : s.vm.findClass "com/example/notate/notate/schema/NumberRange" = some m.cls := findClass_of_methodNamed Bd.named
  have hnm := (name_of_methodNamed Bd.named Bd.method).1
  have X0 : Stand p l e ({ frames := 1, cells := 0, slots := 0, locals := 12 } : Room) s m #[(.ref a1), (.int p2), (.int p3)] below meth c s₁ [] 0 0 := Stand.of_body Bd
  have e0 : s₁.heap = h0 := by rw [← hh, Bd.state]; rfl
  have N0 := Fr.nil n0
  have pw0 : ∀ t, Steps p.tables e below (s₁.setTop (mkF m 0 #[.val (.ref a1), .val (.int p2), .val (.int p3)] [])) t → Steps p.tables e below (s₁.setTop (entryFrame m #[(.ref a1), (.int p2), (.int p3)] 3)) t := fun t k => castTop (ef_3 m a1 p2 p3) k
  have K0 : Keep h0 h0 [a1] := Keep.refl h0 [a1]
  obtain ⟨T5, X5, e5, st5⟩ := initO X0 hx hZ hown (hw _ (List.mem_of_getElem? (i := 13) rfl)) (hw _ (List.mem_of_getElem? (i := 14) rfl)) (hw _ (List.mem_of_getElem? (i := 15) rfl)) e0 (g := (mkF m 1 #[.val (.ref a1), .val (.int p2), .val (.int p3)] [(.ref a1)])) rfl (by rw [hml]; rfl) rfl (hb hby d3_1) (by decide) (W := 0) (by show 2 * 0 + _ ≤ _; exact Nat.le_of_eq rfl) (by decide)
  obtain ⟨T6, h6, X6, e6, W6, st6⟩ := putF X5 hx hZ hown (host := "") (Or.inl (hw _ (List.mem_of_getElem? (i := 16) rfl))) Via.refl e5 F_first E_a1 (Or.inr ⟨(hw _ (List.mem_of_getElem? (i := 17) rfl)), rfl, hnm⟩) (hw _ (List.mem_of_getElem? (i := 8) rfl)) (ty := .int) (by decide) rfl rfl (g := (mkF m 26 #[.val (.ref a1), .val (.int p2), .val (.int p3)] [(.int p2), (.ref a1)])) rfl rfl (hb hby d3_26)
  have Fw6 := F_first.same W6
  have K6 : Keep h0 h6 [a1] := K0.wr W6 (Or.inl (List.mem_of_getElem? (i := 0) rfl))
  have N6 := Fr.snoc X6 N0 g_a1
  have Z6 : n0 ≤ h6.size := (Nat.le_trans Z0 (Nat.le_of_eq (Wr.size W6).symm))
  obtain ⟨T7, h7, X7, e7, W7, st7⟩ := putF X6 hx hZ hown (host := "") (Or.inl (hw _ (List.mem_of_getElem? (i := 18) rfl))) Via.refl e6 (F_last.other W6 (Or.inr (slot_ne (Or.inr (hw _ (List.mem_of_getElem? (i := 19) rfl))) (Or.inr (hw _ (List.mem_of_getElem? (i := 17) rfl))) (by decide) (t := .int) (t' := .int) (by decide) (by decide)))) (E_a1.wr W6) (Or.inr ⟨(hw _ (List.mem_of_getElem? (i := 19) rfl)), rfl, hnm⟩) (hw _ (List.mem_of_getElem? (i := 8) rfl)) (ty := .int) (by decide) rfl rfl (g := (mkF m 31 #[.val (.ref a1), .val (.int p2), .val (.int p3)] [(.int p3), (.ref a1)])) rfl rfl (hb hby d3_31)
  have Fw7 := (F_last.other W6 (Or.inr (slot_ne (Or.inr (hw _ (List.mem_of_getElem? (i := 19) rfl))) (Or.inr (hw _ (List.mem_of_getElem? (i := 17) rfl))) (by decide) (t := .int) (t' := .int) (by decide) (by decide)))).same W7
  have K7 : Keep h0 h7 [a1] := K6.wr W7 (Or.inl (List.mem_of_getElem? (i := 0) rfl))
  have N7 := Fr.snoc X7 N6 g_a1
  have Z7 : n0 ≤ h7.size := (Nat.le_trans Z6 (Nat.le_of_eq (Wr.size W7).symm))
  obtain ⟨fs, hr, hrun, hended, hW, hsame⟩ := X7.leave (v := none) (fun _ => rfl)
  refine ⟨_, _, pw0 _ ?_, hrun, hended, _, _, rfl, ?_, ⟨_, rfl⟩, hW, hsame.mono (by decide) (by decide)⟩
  · skip
    refine XS.aloadN X0.here hx rfl (hb hby d3_0) rfl rfl ?_
    show Steps p.tables e below (s₁.setTop (mkF m 1 #[.val (.ref a1), .val (.int p2), .val (.int p3)] [(.ref a1)])) _
    refine st5 _ ?_
    show Steps p.tables e below (T5.setTop (mkF m 4 #[.val (.ref a1), .val (.int p2), .val (.int p3)] [])) _
    refine XS.iloadN X5.here hx rfl (hb hby d3_4) rfl ?_
    show Steps p.tables e below (T5.setTop (mkF m 5 #[.val (.ref a1), .val (.int p2), .val (.int p3)] [(.int p3)])) _
    refine XS.iloadN X5.here hx rfl (hb hby d3_5) rfl ?_
    show Steps p.tables e below (T5.setTop (mkF m 6 #[.val (.ref a1), .val (.int p2), .val (.int p3)] [(.int p2), (.int p3)])) _
    refine XS.icmpYes X5.here hx rfl (pc0 := 6) (pc' := 24) rfl (hb hby d3_6) rfl (flt (hle : ¬ (p3 < p2))).2.1 (by decide) (by decide) ?_
    show Steps p.tables e below (T5.setTop (mkF m 24 #[.val (.ref a1), .val (.int p2), .val (.int p3)] [])) _
    refine XS.aloadN X5.here hx rfl (hb hby d3_24) rfl rfl ?_
    show Steps p.tables e below (T5.setTop (mkF m 25 #[.val (.ref a1), .val (.int p2), .val (.int p3)] [(.ref a1)])) _
    refine XS.iloadN X5.here hx rfl (hb hby d3_25) rfl ?_
    show Steps p.tables e below (T5.setTop (mkF m 26 #[.val (.ref a1), .val (.int p2), .val (.int p3)] [(.int p2), (.ref a1)])) _
    refine st6 _ ?_
    show Steps p.tables e below (T6.setTop (mkF m 29 #[.val (.ref a1), .val (.int p2), .val (.int p3)] [])) _
    refine XS.aloadN X6.here hx rfl (hb hby d3_29) rfl rfl ?_
    show Steps p.tables e below (T6.setTop (mkF m 30 #[.val (.ref a1), .val (.int p2), .val (.int p3)] [(.ref a1)])) _
    refine XS.iloadN X6.here hx rfl (hb hby d3_30) rfl ?_
    show Steps p.tables e below (T6.setTop (mkF m 31 #[.val (.ref a1), .val (.int p2), .val (.int p3)] [(.int p3), (.ref a1)])) _
    refine st7 _ ?_
    show Steps p.tables e below (T7.setTop (mkF m 34 #[.val (.ref a1), .val (.int p2), .val (.int p3)] [])) _
    exact X7.returnOut hx Bd.returns (hb hby d3_34) hr
  · show Q_3 Z a1 p2 p3 u1 u2 h0 n0 _ T7.heap _
    rw [e7]
    exact ⟨rfl, N7, K7, ((E_a1.wr W6).wr W7), (Fw6.other W7 (Or.inr (slot_ne (Or.inr (hw _ (List.mem_of_getElem? (i := 17) rfl))) (Or.inr (hw _ (List.mem_of_getElem? (i := 19) rfl))) (by decide) (t := .int) (t' := .int) (by decide) (by decide)))), Fw7⟩
theorem d5_0 : decode prog_55_method_5_code 0 = .ok (.aload_n 0, 1) := by decide +kernel
theorem d5_1 : decode prog_55_method_5_code 1 = .ok (.getfield 16, 3) := by decide +kernel
theorem d5_4 : decode prog_55_method_5_code 4 = .ok (.aload_n 0, 1) := by decide +kernel
theorem d5_5 : decode prog_55_method_5_code 5 = .ok (.getfield 22, 3) := by decide +kernel
theorem d5_8 : decode prog_55_method_5_code 8 = .ok (.if_icmp .ne 7, 3) := by decide +kernel
theorem d5_11 : decode prog_55_method_5_code 11 = .ok (.iconst 1, 1) := by decide +kernel
theorem d5_12 : decode prog_55_method_5_code 12 = .ok (.goto 4, 3) := by decide +kernel
theorem d5_15 : decode prog_55_method_5_code 15 = .ok (.iconst 0, 1) := by decide +kernel
theorem d5_16 : decode prog_55_method_5_code 16 = .ok (.ireturn, 1) := by decide +kernel
theorem ef_5 (m : MethodId) (x0 : Addr) : entryFrame m #[(.ref x0)] 1 = mkF m 0 #[.val (.ref x0)] [] := by first | (simp [entryFrame, mkF, argsToLocals, Value.category]; done) | rfl
def Q_5 (Z : State) (a1 : Addr) (w1 w2 r : Int32) (h0 : Heap) (n0 : Nat) (v : Option Value) (h : Heap) (L : List Loc) : Prop := v = some (.int r) ∧ Fr n0 L ∧ h = h0
set_option maxRecDepth 65536 in
set_option maxHeartbeats 40000000 in
theorem rm_5 (l : Launch) (Z : State) (a0 : Array Value) (hw : ∀ d ∈ tables_1, d.before a0 Z = true) (ws : List Jvm.Cond) (a1 : Addr) (w1 w2 r : Int32) (h0 : Heap) (n0 : Nat) (Z0 : n0 ≤ h0.size) (F_first : Fld Z h0 a1 "com/example/notate/notate/schema/NumberRange" "first" "I" (.int w1)) (F_last : Fld Z h0 a1 "com/example/notate/notate/schema/NumberRange" "last" "I" (.int w2)) (hsp : own_sing w1 w2 = r) :
    MetFree l (⟨"com/example/notate/notate/schema/NumberRange", "isSingle", "()Z"⟩ : MethodName) (head1 (Jvm.Cond.code (⟨"com/example/notate/notate/schema/NumberRange", "isSingle", "()Z"⟩ : MethodName) prog_55_method_5_code 1 (some .boolean) :: ws) ({ frames := 0, cells := 0, slots := 0, locals := 0 } : Room)) (fun a U => a = #[(.ref a1)] ∧ Z.Warmed39 U.vm ∧ U.heap = h0) (fun _ _ _ _ _ => True) (fun _ U o U' => ∃ v L, o = .returned v ∧ Q_5 Z a1 w1 w2 r h0 n0 v U'.heap L ∧ FrameEnd U o U' L ({ frames := 0, cells := 0, slots := 0, locals := 0 } : Room).cells ({ frames := 0, cells := 0, slots := 0, locals := 0 } : Room).slots) := by
  refine MetFree.of_bodySF (plainFor_of_name pn_com_example_notate_notate_schema_NumberRange) hisR ?_
  intro p e s m args below meth c s₁ Bd hml0 hP hK
  obtain ⟨rfl, hZ, hh⟩ := hP
  have hx := Bd.exec
  have hby := Bd.bytes
  have hml : c.maxLocals = 1 := hml0
  have hown : s.vm.findClass "com/example/notate/notate/schema/NumberRange" = some m.cls := findClass_of_methodNamed Bd.named
  have hnm := (name_of_methodNamed Bd.named Bd.method).1
  have X0 : Stand p l e ({ frames := 0, cells := 0, slots := 0, locals := 0 } : Room) s m #[(.ref a1)] below meth c s₁ [] 0 0 := Stand.of_body Bd
  have e0 : s₁.heap = h0 := by rw [← hh, Bd.state]; rfl
  have N0 := Fr.nil n0
  have pw0 : ∀ t, Steps p.tables e below (s₁.setTop (mkF m 0 #[.val (.ref a1)] [])) t → Steps p.tables e below (s₁.setTop (entryFrame m #[(.ref a1)] 1)) t := fun t k => castTop (ef_5 m a1) k
  have K0 : Keep h0 h0 [] := Keep.refl h0 []
  obtain ⟨T8, X8, e8, st8⟩ := getF X0 hx hZ hown (host := "") (Or.inl (hw _ (List.mem_of_getElem? (i := 16) rfl))) Via.refl e0 F_first (g := (mkF m 1 #[.val (.ref a1)] [(.ref a1)])) rfl rfl (hb hby d5_1)
  obtain ⟨T9, X9, e9, st9⟩ := getF X8 hx hZ hown (host := "") (Or.inl (hw _ (List.mem_of_getElem? (i := 18) rfl))) Via.refl e8 F_last (g := (mkF m 5 #[.val (.ref a1)] [(.ref a1), (.int w1)])) rfl rfl (hb hby d5_5)
  have pw10 : ∀ t, Steps p.tables e below (T9.setTop (mkF m 8 #[.val (.ref a1)] [(.int w2), (.int w1)])) t → Steps p.tables e below (s₁.setTop (entryFrame m #[(.ref a1)] 1)) t := by
    intro t k
    refine pw0 t ?_
    refine XS.aloadN X0.here hx rfl (hb hby d5_0) rfl rfl ?_
    show Steps p.tables e below (s₁.setTop (mkF m 1 #[.val (.ref a1)] [(.ref a1)])) _
    refine st8 _ ?_
    show Steps p.tables e below (T8.setTop (mkF m 4 #[.val (.ref a1)] [(.int w1)])) _
    refine XS.aloadN X8.here hx rfl (hb hby d5_4) rfl rfl ?_
    show Steps p.tables e below (T8.setTop (mkF m 5 #[.val (.ref a1)] [(.ref a1), (.int w1)])) _
    refine st9 _ ?_
    show Steps p.tables e below (T9.setTop (mkF m 8 #[.val (.ref a1)] [(.int w2), (.int w1)])) _
    exact k
  by_cases hc11 : w1 = w2
  · skip
    obtain ⟨fs, hr, hrun, hended, hW, hsame⟩ := X9.leave (v := some (.int (1 : Int32))) (fun h => by rw [Bd.returns] at h; cases h)
    refine ⟨_, _, pw10 _ ?_, hrun, hended, _, _, rfl, ?_, ⟨_, rfl⟩, hW, hsame.mono (by decide) (by decide)⟩
    · skip
      refine XS.icmpNo X9.here hx rfl (hb hby d5_8) rfl (teq hc11).2 ?_
      show Steps p.tables e below (T9.setTop (mkF m 11 #[.val (.ref a1)] [])) _
      refine XS.iconst X9.here hx rfl (hb hby d5_11) ?_
      show Steps p.tables e below (T9.setTop (mkF m 12 #[.val (.ref a1)] [(.int (1 : Int32))])) _
      refine XS.goto X9.here hx rfl (pc0 := 12) (pc' := 16) rfl (hb hby d5_12) (by decide) (by decide) ?_
      show Steps p.tables e below (T9.setTop (mkF m 16 #[.val (.ref a1)] [(.int (1 : Int32))])) _
      exact retN X9 hx (t := .boolean) Bd.returns (by simp) (hb hby d5_16) hr
    · show Q_5 Z a1 w1 w2 r h0 n0 _ T9.heap _
      rw [e9]
      exact ⟨by rw [← hsp]; unfold own_sing; rw [if_pos hc11], N0, rfl⟩
  · skip
    obtain ⟨fs, hr, hrun, hended, hW, hsame⟩ := X9.leave (v := some (.int (0 : Int32))) (fun h => by rw [Bd.returns] at h; cases h)
    refine ⟨_, _, pw10 _ ?_, hrun, hended, _, _, rfl, ?_, ⟨_, rfl⟩, hW, hsame.mono (by decide) (by decide)⟩
    · skip
      refine XS.icmpYes X9.here hx rfl (pc0 := 8) (pc' := 15) rfl (hb hby d5_8) rfl (feq hc11).2 (by decide) (by decide) ?_
      show Steps p.tables e below (T9.setTop (mkF m 15 #[.val (.ref a1)] [])) _
      refine XS.iconst X9.here hx rfl (hb hby d5_15) ?_
      show Steps p.tables e below (T9.setTop (mkF m 16 #[.val (.ref a1)] [(.int (0 : Int32))])) _
      exact retN X9 hx (t := .boolean) Bd.returns (by simp) (hb hby d5_16) hr
    · show Q_5 Z a1 w1 w2 r h0 n0 _ T9.heap _
      rw [e9]
      exact ⟨by rw [← hsp]; unfold own_sing; rw [if_neg hc11], N0, rfl⟩
theorem d6_0 : decode prog_55_method_2_code 0 = .ok (.new 17, 3) := by decide +kernel
theorem d6_3 : decode prog_55_method_2_code 3 = .ok (.dup, 1) := by decide +kernel
theorem d6_4 : decode prog_55_method_2_code 4 = .ok (.iload_n 0, 1) := by decide +kernel
theorem d6_5 : decode prog_55_method_2_code 5 = .ok (.iload_n 0, 1) := by decide +kernel
theorem d6_6 : decode prog_55_method_2_code 6 = .ok (.invokespecial 25, 3) := by decide +kernel
theorem d6_9 : decode prog_55_method_2_code 9 = .ok (.areturn, 1) := by decide +kernel
theorem ef_6 (m : MethodId) (x0 : Int32) : entryFrame m #[(.int x0)] 1 = mkF m 0 #[.val (.int x0)] [] := by first | (simp [entryFrame, mkF, argsToLocals, Value.category]; done) | rfl
def Q_6 (Z : State) (p1 : Int32) (h0 : Heap) (n0 : Nat) (v : Option Value) (h : Heap) (L : List Loc) : Prop := ∃ b : Addr, v = some (.ref b) ∧ Fr n0 L ∧ Keep h0 h [] ∧ n0 ≤ b ∧ Exa Z h b "com/example/notate/notate/schema/NumberRange" ∧ Fld Z h b "com/example/notate/notate/schema/NumberRange" "first" "I" (.int p1) ∧ Fld Z h b "com/example/notate/notate/schema/NumberRange" "last" "I" (.int p1)
set_option maxRecDepth 65536 in
set_option maxHeartbeats 40000000 in
theorem rm_6 (l : Launch) (Z : State) (a0 : Array Value) (hw : ∀ d ∈ tables_1, d.before a0 Z = true) (ws : List Jvm.Cond) (p1 : Int32) (h0 : Heap) (n0 : Nat) (Z0 : n0 ≤ h0.size)  :
    MetFree l (⟨"com/example/notate/notate/schema/NumberRange", "of", "(I)Lcom/example/notate/notate/schema/NumberRange;"⟩ : MethodName) (head1 (Jvm.Cond.code (⟨"com/example/notate/notate/schema/NumberRange", "of", "(I)Lcom/example/notate/notate/schema/NumberRange;"⟩ : MethodName) prog_55_method_2_code 1 (some (.object "com/example/notate/notate/schema/NumberRange")) :: ws) ({ frames := 2, cells := 1, slots := 2, locals := 27 } : Room)) (fun a U => a = #[(.int p1)] ∧ Z.Warmed39 U.vm ∧ U.heap = h0) (fun _ _ _ _ _ => True) (fun _ U o U' => ∃ v L, o = .returned v ∧ Q_6 Z p1 h0 n0 v U'.heap L ∧ FrameEnd U o U' L ({ frames := 2, cells := 1, slots := 2, locals := 27 } : Room).cells ({ frames := 2, cells := 1, slots := 2, locals := 27 } : Room).slots) := by
  refine MetFree.of_bodySF (plainFor_of_name pn_com_example_notate_notate_schema_NumberRange) hisR ?_
  intro p e s m args below meth c s₁ Bd hml0 hP hK
  obtain ⟨rfl, hZ, hh⟩ := hP
  have hx := Bd.exec
  have hby := Bd.bytes
  have hml : c.maxLocals = 1 := hml0
  have hown : s.vm.findClass "com/example/notate/notate/schema/NumberRange" = some m.cls := findClass_of_methodNamed Bd.named
  have hnm := (name_of_methodNamed Bd.named Bd.method).1
  have X0 : Stand p l e ({ frames := 2, cells := 1, slots := 2, locals := 27 } : Room) s m #[(.int p1)] below meth c s₁ [] 0 0 := Stand.of_body Bd
  have e0 : s₁.heap = h0 := by rw [← hh, Bd.state]; rfl
  have N0 := Fr.nil n0
  have pw0 : ∀ t, Steps p.tables e below (s₁.setTop (mkF m 0 #[.val (.int p1)] [])) t → Steps p.tables e below (s₁.setTop (entryFrame m #[(.int p1)] 1)) t := fun t k => castTop (ef_6 m p1) k
  have K0 : Keep h0 h0 [] := Keep.refl h0 []
  obtain ⟨T12, h12, X12, e12, E12, A12, D12, -, st12⟩ := newO X0 hx hZ hown (hw _ (List.mem_of_getElem? (i := 28) rfl)) (hw _ (List.mem_of_getElem? (i := 8) rfl)) (hw _ (List.mem_of_getElem? (i := 9) rfl)) e0 (g := (mkF m 0 #[.val (.int p1)] [])) rfl (hb hby d6_0) (by decide) (by decide)
  obtain ⟨b12, g12⟩ : ∃ z, z = h0.size := ⟨_, rfl⟩
  rw [← g12] at A12 D12 st12
  have g_b12 : n0 ≤ b12 := Nat.le_trans Z0 (Nat.le_of_eq g12.symm)
  have sz_b12 : h0.size ≤ b12 := Nat.le_trans K0.1 (Nat.le_of_eq g12.symm)
  have F_first_b12 : Fld Z h12 b12 "com/example/notate/notate/schema/NumberRange" "first" "I" (.int (0 : Int32)) := D12 (Or.inr (hw _ (List.mem_of_getElem? (i := 17) rfl))) (ty := .int) (by decide)
  have F_last_b12 : Fld Z h12 b12 "com/example/notate/notate/schema/NumberRange" "last" "I" (.int (0 : Int32)) := D12 (Or.inr (hw _ (List.mem_of_getElem? (i := 19) rfl))) (ty := .int) (by decide)
  have K12 : Keep h0 h12 [] := K0.ext E12
  have Z12 : n0 ≤ h12.size := (Nat.le_trans Z0 E12.1)
  obtain ⟨_, _, ⟨T13, L13, k13, n13⟩, -, X13, ⟨Lc13, hQ13, l13, y13, z13⟩, st13⟩ := X12.specialBack hx (y := (⟨"com/example/notate/notate/schema/NumberRange", "<init>", "(II)V"⟩ : MethodName)) rfl hown (mvT hZ (hw _ (List.mem_of_getElem? (i := 29) rfl))) (mvT hZ (hw _ (List.mem_of_getElem? (i := 11) rfl))) (mvT hZ (hw _ (List.mem_of_getElem? (i := 12) rfl))) (by decide) (backOf (W := 1) (rm_3 l Z a0 hw [] b12 p1 p1 _ _ h12 n0 Z12 A12 F_first_b12 F_last_b12 g_b12 Int32.lt_irrefl) hZ (hw _ (List.mem_of_getElem? (i := 12) rfl)) (hw _ (List.mem_of_getElem? (i := 9) rfl)) (by decide) (by decide)) (g := (mkF m 6 #[.val (.int p1)] [(.int p1), (.int p1), (.ref b12), (.ref b12)])) rfl (by rw [hml]; rfl) (Steps.refl _) (a := b12) (argsL := [(.int p1), (.int p1)]) (rest := [(.ref b12)]) (lenOf pd__II_V rfl) rfl (by show 2 * 0 + _ ≤ _; exact Nat.le_of_eq rfl) (hb hby d6_6) (fun _ _ => ⟨rfl, e12, (by decide : 1 + 0 ≤ _), (by decide : 2 + 0 ≤ _)⟩)
  dsimp only [Pt.U, Pt.locs, Pt.cells, Pt.slots] at X13 l13 y13 z13 st13 hQ13
  subst l13 y13 z13
  obtain ⟨rfl, N13q, K13q, E13q, Fa13q, Fb13q⟩ := hQ13
  have N13 := Fr.app N0 N13q
  have K13 : Keep h0 T13.heap [] := K12.trans K13q (allS (P := fun x => x ∈ [] ∨ h0.size ≤ x) (Or.inr sz_b12) all0)
  have Z13 : n0 ≤ T13.heap.size := (Nat.le_trans Z12 K13q.1)
  obtain ⟨fs, hr, hrun, hended, hW, hsame⟩ := X13.leave (v := some (.ref b12)) (fun h => by rw [Bd.returns] at h; cases h)
  refine ⟨_, _, pw0 _ ?_, hrun, hended, _, _, rfl, ?_, ⟨_, rfl⟩, hW, hsame.mono (by decide) (by decide)⟩
  · skip
    refine st12 _ ?_
    show Steps p.tables e below (T12.setTop (mkF m 3 #[.val (.int p1)] [(.ref b12)])) _
    refine XS.dup X12.here hx rfl (hb hby d6_3) rfl rfl ?_
    show Steps p.tables e below (T12.setTop (mkF m 4 #[.val (.int p1)] [(.ref b12), (.ref b12)])) _
    refine XS.iloadN X12.here hx rfl (hb hby d6_4) rfl ?_
    show Steps p.tables e below (T12.setTop (mkF m 5 #[.val (.int p1)] [(.int p1), (.ref b12), (.ref b12)])) _
    refine XS.iloadN X12.here hx rfl (hb hby d6_5) rfl ?_
    show Steps p.tables e below (T12.setTop (mkF m 6 #[.val (.int p1)] [(.int p1), (.int p1), (.ref b12), (.ref b12)])) _
    refine st13.trans ?_
    show Steps p.tables e below (T13.setTop (mkF m 9 #[.val (.int p1)] [(.ref b12)])) _
    exact retOut X13 hx Bd.returns rfl (Or.inr (Or.inr (Or.inr (Or.inr ⟨rfl, rfl, rfl⟩)))) (hb hby d6_9) hr
  · show Q_6 Z p1 h0 n0 _ T13.heap _
    exact ⟨b12, rfl, N13, K13, g_b12, E13q, Fa13q, Fb13q⟩
theorem ef_0 (m : MethodId) (x0 : Int32) (x1 : Int32) : entryFrame m #[(.int x0), (.int x1)] maxLocals = mkF m 0 #[.val (.int x0), .val (.int x1), .unset, .unset, .unset, .unset, .unset, .unset, .unset] [] := by first | (simp [entryFrame, mkF, argsToLocals, Value.category, maxLocals]; done) | rfl
theorem pn_com_example_notate_notate_schema_NumberRangeIsSinglePinLaw : plainName "com/example/notate/notate/schema/NumberRangeIsSinglePinLaw" = true := by first | (simp [plainName, overriddenIn]; done) | decide +kernel
def Q_0 (Z : State) (x0 : Int32) (x1 : Int32) (lo hi : Int32) (h0 : Heap) (n0 : Nat) (v : Option Value) (h : Heap) (L : List Loc) : Prop := v = some (.int 1) ∧ Fr n0 L
set_option maxRecDepth 65536 in
set_option maxHeartbeats 40000000 in
theorem rm_0 (l : Launch) (Z : State) (a0 : Array Value) (hw : ∀ d ∈ tables_1, d.before a0 Z = true) (ws : List Jvm.Cond) (x0 : Int32) (x1 : Int32) (lo hi : Int32) (h0 : Heap) (n0 : Nat) (Z0 : n0 ≤ h0.size) (hlo : own_min x0 x1 = lo) (hhi : own_max x0 x1 = hi) (hle : ¬ (hi < lo)) :
    MetFree l x (head1 (Jvm.Cond.code x code maxLocals ret :: ws) room_1) (fun a U => a = #[(.int x0), (.int x1)] ∧ Z.Warmed39 U.vm ∧ U.heap = h0) (fun _ _ _ _ _ => True) (fun _ U o U' => ∃ v L, o = .returned v ∧ Q_0 Z x0 x1 lo hi h0 n0 v U'.heap L ∧ FrameEnd U o U' L room_1.cells room_1.slots) := by
  refine MetFree.of_bodySF (plainFor_of_name pn_com_example_notate_notate_schema_NumberRangeIsSinglePinLaw) hisR ?_
  intro p e s m args below meth c s₁ Bd hml0 hP hK
  obtain ⟨rfl, hZ, hh⟩ := hP
  have hx := Bd.exec
  have hby := Bd.bytes
  have hml : c.maxLocals = 9 := hml0
  have hown : s.vm.findClass "com/example/notate/notate/schema/NumberRangeIsSinglePinLaw" = some m.cls := findClass_of_methodNamed Bd.named
  have hnm := (name_of_methodNamed Bd.named Bd.method).1
  have X0 : Stand p l e room_1 s m #[(.int x0), (.int x1)] below meth c s₁ [] 0 0 := Stand.of_body Bd
  have e0 : s₁.heap = h0 := by rw [← hh, Bd.state]; rfl
  have N0 := Fr.nil n0
  have pw0 : ∀ t, Steps p.tables e below (s₁.setTop (mkF m 0 #[.val (.int x0), .val (.int x1), .unset, .unset, .unset, .unset, .unset, .unset, .unset] [])) t → Steps p.tables e below (s₁.setTop (entryFrame m #[(.int x0), (.int x1)] maxLocals)) t := fun t k => castTop (ef_0 m x0 x1) k
  have K0 : Keep h0 h0 [] := Keep.refl h0 []
  obtain ⟨_, _, ⟨T14, L14, k14, n14⟩, -, X14, ⟨Lc14, hQ14, l14, y14, z14⟩, st14⟩ := Jvm.LawKit.callS X0 hx (y := (⟨"java/lang/Math", "min", "(II)I"⟩ : MethodName)) hown (mvT hZ (hw _ (List.mem_of_getElem? (i := 0) rfl))) (mvT hZ (hw _ (List.mem_of_getElem? (i := 1) rfl))) (mvT hZ (hw _ (List.mem_of_getElem? (i := 2) rfl))) (mvT hZ (hw _ (List.mem_of_getElem? (i := 3) rfl))) (by decide) (backOf (W := 0) (rm_1 l Z a0 hw [] x0 x1 lo h0 n0 Z0 hlo) hZ (hw _ (List.mem_of_getElem? (i := 3) rfl)) (hw _ (List.mem_of_getElem? (i := 2) rfl)) (by decide) (by decide)) (g := (mkF m 2 #[.val (.int x0), .val (.int x1), .unset, .unset, .unset, .unset, .unset, .unset, .unset] [(.int x1), (.int x0)])) rfl (by rw [hml]; rfl) (argsL := [(.int x0), (.int x1)]) (rest := []) (lenOf pd__II_I rfl) rfl (by show 2 * 0 + _ ≤ _; exact Nat.le_of_eq rfl) (hb hby at_2) (fun _ _ => ⟨rfl, e0, (by decide : 0 + 0 ≤ _), (by decide : 0 + 0 ≤ _)⟩)
  dsimp only [Pt.U, Pt.locs, Pt.cells, Pt.slots] at X14 l14 y14 z14 st14 hQ14
  subst l14 y14 z14
  obtain ⟨rfl, N14q, e14q⟩ := hQ14
  have N14 := Fr.app N0 N14q
  obtain ⟨_, _, ⟨T15, L15, k15, n15⟩, -, X15, ⟨Lc15, hQ15, l15, y15, z15⟩, st15⟩ := Jvm.LawKit.callS X14 hx (y := (⟨"java/lang/Math", "max", "(II)I"⟩ : MethodName)) hown (mvT hZ (hw _ (List.mem_of_getElem? (i := 4) rfl))) (mvT hZ (hw _ (List.mem_of_getElem? (i := 5) rfl))) (mvT hZ (hw _ (List.mem_of_getElem? (i := 2) rfl))) (mvT hZ (hw _ (List.mem_of_getElem? (i := 6) rfl))) (by decide) (backOf (W := 0) (rm_2 l Z a0 hw [] x0 x1 hi h0 n0 Z0 hhi) hZ (hw _ (List.mem_of_getElem? (i := 6) rfl)) (hw _ (List.mem_of_getElem? (i := 2) rfl)) (by decide) (by decide)) (g := (mkF m 8 #[.val (.int x0), .val (.int x1), .val (.int lo), .unset, .unset, .unset, .unset, .unset, .unset] [(.int x1), (.int x0)])) rfl (by rw [hml]; rfl) (argsL := [(.int x0), (.int x1)]) (rest := []) (lenOf pd__II_I rfl) rfl (by show 2 * 0 + _ ≤ _; exact Nat.le_of_eq rfl) (hb hby at_8) (fun _ _ => ⟨rfl, e14q, (by decide : 0 + 0 ≤ _), (by decide : 0 + 0 ≤ _)⟩)
  dsimp only [Pt.U, Pt.locs, Pt.cells, Pt.slots] at X15 l15 y15 z15 st15 hQ15
  subst l15 y15 z15
  obtain ⟨rfl, N15q, e15q⟩ := hQ15
  have N15 := Fr.app N14 N15q
  obtain ⟨T16, h16, X16, e16, E16, A16, D16, -, st16⟩ := newO X15 hx hZ hown (hw _ (List.mem_of_getElem? (i := 7) rfl)) (hw _ (List.mem_of_getElem? (i := 8) rfl)) (hw _ (List.mem_of_getElem? (i := 9) rfl)) e15q (g := (mkF m 12 #[.val (.int x0), .val (.int x1), .val (.int lo), .val (.int hi), .unset, .unset, .unset, .unset, .unset] [])) rfl (hb hby at_12) (by decide) (by decide)
  obtain ⟨b16, g16⟩ : ∃ z, z = h0.size := ⟨_, rfl⟩
  rw [← g16] at A16 D16 st16
  have g_b16 : n0 ≤ b16 := Nat.le_trans Z0 (Nat.le_of_eq g16.symm)
  have sz_b16 : h0.size ≤ b16 := Nat.le_trans K0.1 (Nat.le_of_eq g16.symm)
  have F_first_b16 : Fld Z h16 b16 "com/example/notate/notate/schema/NumberRange" "first" "I" (.int (0 : Int32)) := D16 (Or.inr (hw _ (List.mem_of_getElem? (i := 17) rfl))) (ty := .int) (by decide)
  have F_last_b16 : Fld Z h16 b16 "com/example/notate/notate/schema/NumberRange" "last" "I" (.int (0 : Int32)) := D16 (Or.inr (hw _ (List.mem_of_getElem? (i := 19) rfl))) (ty := .int) (by decide)
  have K16 : Keep h0 h16 [] := K0.ext E16
  have Z16 : n0 ≤ h16.size := (Nat.le_trans Z0 E16.1)
  obtain ⟨_, _, ⟨T17, L17, k17, n17⟩, -, X17, ⟨Lc17, hQ17, l17, y17, z17⟩, st17⟩ := X16.specialBack hx (y := (⟨"com/example/notate/notate/schema/NumberRange", "<init>", "(II)V"⟩ : MethodName)) rfl hown (mvT hZ (hw _ (List.mem_of_getElem? (i := 10) rfl))) (mvT hZ (hw _ (List.mem_of_getElem? (i := 11) rfl))) (mvT hZ (hw _ (List.mem_of_getElem? (i := 12) rfl))) (by decide) (backOf (W := 1) (rm_3 l Z a0 hw [] b16 lo hi _ _ h16 n0 Z16 A16 F_first_b16 F_last_b16 g_b16 hle) hZ (hw _ (List.mem_of_getElem? (i := 12) rfl)) (hw _ (List.mem_of_getElem? (i := 9) rfl)) (by decide) (by decide)) (g := (mkF m 18 #[.val (.int x0), .val (.int x1), .val (.int lo), .val (.int hi), .unset, .unset, .unset, .unset, .unset] [(.int hi), (.int lo), (.ref b16), (.ref b16)])) rfl (by rw [hml]; rfl) (Steps.refl _) (a := b16) (argsL := [(.int lo), (.int hi)]) (rest := [(.ref b16)]) (lenOf pd__II_V rfl) rfl (by show 2 * 0 + _ ≤ _; exact Nat.le_of_eq rfl) (hb hby at_18) (fun _ _ => ⟨rfl, e16, (by decide : 1 + 0 ≤ _), (by decide : 2 + 0 ≤ _)⟩)
  dsimp only [Pt.U, Pt.locs, Pt.cells, Pt.slots] at X17 l17 y17 z17 st17 hQ17
  subst l17 y17 z17
  obtain ⟨rfl, N17q, K17q, E17q, Fa17q, Fb17q⟩ := hQ17
  have N17 := Fr.app N15 N17q
  have K17 : Keep h0 T17.heap [] := K16.trans K17q (allS (P := fun x => x ∈ [] ∨ h0.size ≤ x) (Or.inr sz_b16) all0)
  have Z17 : n0 ≤ T17.heap.size := (Nat.le_trans Z16 K17q.1)
  have pw18 : ∀ t, Steps p.tables e below (T17.setTop (mkF m 36 #[.val (.int x0), .val (.int x1), .val (.int lo), .val (.int hi), .val (.ref b16), .val (.long (((hi.toInt64) - (lo.toInt64)) + (1 : Int64))), .second, .unset, .unset] [(.int (lcmpW (((hi.toInt64) - (lo.toInt64)) + (1 : Int64)) (1 : Int64)))])) t → Steps p.tables e below (s₁.setTop (entryFrame m #[(.int x0), (.int x1)] maxLocals)) t := by
    intro t k
    refine pw0 t ?_
    refine XS.iloadN X0.here hx rfl (hb hby at_0) rfl ?_
    show Steps p.tables e below (s₁.setTop (mkF m 1 #[.val (.int x0), .val (.int x1), .unset, .unset, .unset, .unset, .unset, .unset, .unset] [(.int x0)])) _
    refine XS.iloadN X0.here hx rfl (hb hby at_1) rfl ?_
    show Steps p.tables e below (s₁.setTop (mkF m 2 #[.val (.int x0), .val (.int x1), .unset, .unset, .unset, .unset, .unset, .unset, .unset] [(.int x1), (.int x0)])) _
    refine st14 _ ?_
    show Steps p.tables e below (T14.setTop (mkF m 5 #[.val (.int x0), .val (.int x1), .unset, .unset, .unset, .unset, .unset, .unset, .unset] [(.int lo)])) _
    refine XS.istoreN X14.here hx rfl (hb hby at_5) rfl (l' := #[.val (.int x0), .val (.int x1), .val (.int lo), .unset, .unset, .unset, .unset, .unset, .unset]) rfl ?_
    show Steps p.tables e below (T14.setTop (mkF m 6 #[.val (.int x0), .val (.int x1), .val (.int lo), .unset, .unset, .unset, .unset, .unset, .unset] [])) _
    refine XS.iloadN X14.here hx rfl (hb hby at_6) rfl ?_
    show Steps p.tables e below (T14.setTop (mkF m 7 #[.val (.int x0), .val (.int x1), .val (.int lo), .unset, .unset, .unset, .unset, .unset, .unset] [(.int x0)])) _
    refine XS.iloadN X14.here hx rfl (hb hby at_7) rfl ?_
    show Steps p.tables e below (T14.setTop (mkF m 8 #[.val (.int x0), .val (.int x1), .val (.int lo), .unset, .unset, .unset, .unset, .unset, .unset] [(.int x1), (.int x0)])) _
    refine st15 _ ?_
    show Steps p.tables e below (T15.setTop (mkF m 11 #[.val (.int x0), .val (.int x1), .val (.int lo), .unset, .unset, .unset, .unset, .unset, .unset] [(.int hi)])) _
    refine XS.istoreN X15.here hx rfl (hb hby at_11) rfl (l' := #[.val (.int x0), .val (.int x1), .val (.int lo), .val (.int hi), .unset, .unset, .unset, .unset, .unset]) rfl ?_
    show Steps p.tables e below (T15.setTop (mkF m 12 #[.val (.int x0), .val (.int x1), .val (.int lo), .val (.int hi), .unset, .unset, .unset, .unset, .unset] [])) _
    refine st16 _ ?_
    show Steps p.tables e below (T16.setTop (mkF m 15 #[.val (.int x0), .val (.int x1), .val (.int lo), .val (.int hi), .unset, .unset, .unset, .unset, .unset] [(.ref b16)])) _
    refine XS.dup X16.here hx rfl (hb hby at_15) rfl rfl ?_
    show Steps p.tables e below (T16.setTop (mkF m 16 #[.val (.int x0), .val (.int x1), .val (.int lo), .val (.int hi), .unset, .unset, .unset, .unset, .unset] [(.ref b16), (.ref b16)])) _
    refine XS.iloadN X16.here hx rfl (hb hby at_16) rfl ?_
    show Steps p.tables e below (T16.setTop (mkF m 17 #[.val (.int x0), .val (.int x1), .val (.int lo), .val (.int hi), .unset, .unset, .unset, .unset, .unset] [(.int lo), (.ref b16), (.ref b16)])) _
    refine XS.iloadN X16.here hx rfl (hb hby at_17) rfl ?_
    show Steps p.tables e below (T16.setTop (mkF m 18 #[.val (.int x0), .val (.int x1), .val (.int lo), .val (.int hi), .unset, .unset, .unset, .unset, .unset] [(.int hi), (.int lo), (.ref b16), (.ref b16)])) _
    refine st17.trans ?_
    show Steps p.tables e below (T17.setTop (mkF m 21 #[.val (.int x0), .val (.int x1), .val (.int lo), .val (.int hi), .unset, .unset, .unset, .unset, .unset] [(.ref b16)])) _
    refine XS.astore X17.here hx rfl (hb hby at_21) rfl rfl (l' := #[.val (.int x0), .val (.int x1), .val (.int lo), .val (.int hi), .val (.ref b16), .unset, .unset, .unset, .unset]) rfl ?_
    show Steps p.tables e below (T17.setTop (mkF m 23 #[.val (.int x0), .val (.int x1), .val (.int lo), .val (.int hi), .val (.ref b16), .unset, .unset, .unset, .unset] [])) _
    refine XS.iloadN X17.here hx rfl (hb hby at_23) rfl ?_
    show Steps p.tables e below (T17.setTop (mkF m 24 #[.val (.int x0), .val (.int x1), .val (.int lo), .val (.int hi), .val (.ref b16), .unset, .unset, .unset, .unset] [(.int hi)])) _
    refine XS.i2l X17.here hx rfl (hb hby at_24) rfl ?_
    show Steps p.tables e below (T17.setTop (mkF m 25 #[.val (.int x0), .val (.int x1), .val (.int lo), .val (.int hi), .val (.ref b16), .unset, .unset, .unset, .unset] [(.long (hi.toInt64))])) _
    refine XS.iloadN X17.here hx rfl (hb hby at_25) rfl ?_
    show Steps p.tables e below (T17.setTop (mkF m 26 #[.val (.int x0), .val (.int x1), .val (.int lo), .val (.int hi), .val (.ref b16), .unset, .unset, .unset, .unset] [(.int lo), (.long (hi.toInt64))])) _
    refine XS.i2l X17.here hx rfl (hb hby at_26) rfl ?_
    show Steps p.tables e below (T17.setTop (mkF m 27 #[.val (.int x0), .val (.int x1), .val (.int lo), .val (.int hi), .val (.ref b16), .unset, .unset, .unset, .unset] [(.long (lo.toInt64)), (.long (hi.toInt64))])) _
    refine XS.lsub X17.here hx rfl (hb hby at_27) rfl ?_
    show Steps p.tables e below (T17.setTop (mkF m 28 #[.val (.int x0), .val (.int x1), .val (.int lo), .val (.int hi), .val (.ref b16), .unset, .unset, .unset, .unset] [(.long ((hi.toInt64) - (lo.toInt64)))])) _
    refine XS.lconst X17.here hx rfl (hb hby at_28) ?_
    show Steps p.tables e below (T17.setTop (mkF m 29 #[.val (.int x0), .val (.int x1), .val (.int lo), .val (.int hi), .val (.ref b16), .unset, .unset, .unset, .unset] [(.long (1 : Int64)), (.long ((hi.toInt64) - (lo.toInt64)))])) _
    refine XS.ladd X17.here hx rfl (hb hby at_29) rfl ?_
    show Steps p.tables e below (T17.setTop (mkF m 30 #[.val (.int x0), .val (.int x1), .val (.int lo), .val (.int hi), .val (.ref b16), .unset, .unset, .unset, .unset] [(.long (((hi.toInt64) - (lo.toInt64)) + (1 : Int64)))])) _
    refine XS.lstore X17.here hx rfl (hb hby at_30) rfl (l' := #[.val (.int x0), .val (.int x1), .val (.int lo), .val (.int hi), .val (.ref b16), .val (.long (((hi.toInt64) - (lo.toInt64)) + (1 : Int64))), .second, .unset, .unset]) rfl ?_
    show Steps p.tables e below (T17.setTop (mkF m 32 #[.val (.int x0), .val (.int x1), .val (.int lo), .val (.int hi), .val (.ref b16), .val (.long (((hi.toInt64) - (lo.toInt64)) + (1 : Int64))), .second, .unset, .unset] [])) _
    refine XS.lload X17.here hx rfl (hb hby at_32) rfl ?_
    show Steps p.tables e below (T17.setTop (mkF m 34 #[.val (.int x0), .val (.int x1), .val (.int lo), .val (.int hi), .val (.ref b16), .val (.long (((hi.toInt64) - (lo.toInt64)) + (1 : Int64))), .second, .unset, .unset] [(.long (((hi.toInt64) - (lo.toInt64)) + (1 : Int64)))])) _
    refine XS.lconst X17.here hx rfl (hb hby at_34) ?_
    show Steps p.tables e below (T17.setTop (mkF m 35 #[.val (.int x0), .val (.int x1), .val (.int lo), .val (.int hi), .val (.ref b16), .val (.long (((hi.toInt64) - (lo.toInt64)) + (1 : Int64))), .second, .unset, .unset] [(.long (1 : Int64)), (.long (((hi.toInt64) - (lo.toInt64)) + (1 : Int64)))])) _
    refine XS.lcmp X17.here hx rfl (hb hby at_35) rfl ?_
    show Steps p.tables e below (T17.setTop (mkF m 36 #[.val (.int x0), .val (.int x1), .val (.int lo), .val (.int hi), .val (.ref b16), .val (.long (((hi.toInt64) - (lo.toInt64)) + (1 : Int64))), .second, .unset, .unset] [(.int (lcmpW (((hi.toInt64) - (lo.toInt64)) + (1 : Int64)) (1 : Int64)))])) _
    exact k
  by_cases hc19 : (((hi.toInt64) - (lo.toInt64)) + (1 : Int64)) = (1 : Int64)
  · skip
    obtain ⟨cq20, kq20, q20a, q20b, q20c⟩ := isOf hZ rfl E17q
    obtain ⟨_, _, ⟨T20, L20, k20, n20⟩, -, X20, ⟨Lc20, hQ20, l20, y20, z20⟩, st20⟩ := X17.virtualBack hx (y := (⟨"com/example/notate/notate/schema/NumberRange", "isSingle", "()Z"⟩ : MethodName)) (z := (⟨"com/example/notate/notate/schema/NumberRange", "isSingle", "()Z"⟩ : MethodName)) hown (mvT hZ (hw _ (List.mem_of_getElem? (i := 20) rfl))) (mvT hZ (hw _ (List.mem_of_getElem? (i := 21) rfl))) (notFace_of_selects (args := #[]) (mvT hZ (hw _ (List.mem_of_getElem? (i := 23) rfl)))) (mvT hZ (hw _ (List.mem_of_getElem? (i := 23) rfl))) (mvT hZ (hw _ (List.mem_of_getElem? (i := 22) rfl))) (by decide) (backOf (W := 0) (rm_5 l Z a0 hw [] b16 lo hi (1 : Int32) T17.heap n0 Z17 Fa17q Fb17q (if_pos ((own_cnt lo hi).1 hc19))) hZ (hw _ (List.mem_of_getElem? (i := 24) rfl)) (hw _ (List.mem_of_getElem? (i := 9) rfl)) (by decide) (by decide)) q20a q20c (g := (mkF m 48 #[.val (.int x0), .val (.int x1), .val (.int lo), .val (.int hi), .val (.ref b16), .val (.long (((hi.toInt64) - (lo.toInt64)) + (1 : Int64))), .second, .val (.int (1 : Int32)), .unset] [(.ref b16)])) rfl (by rw [hml]; rfl) (Steps.refl _) (argsL := []) (rest := []) (lenOf pd___Z rfl) rfl (by show 2 * 0 + _ ≤ _; exact Nat.le_of_eq rfl) (hb hby at_48) (fun _ _ => ⟨rfl, rfl, (by decide : 1 + 0 ≤ _), (by decide : 2 + 0 ≤ _)⟩)
    dsimp only [Pt.U, Pt.locs, Pt.cells, Pt.slots] at X20 l20 y20 z20 st20 hQ20
    subst l20 y20 z20
    obtain ⟨rfl, N20q, e20q⟩ := hQ20
    have N20 := Fr.app N17 N20q
    obtain ⟨_, _, ⟨T21, L21, k21, n21⟩, -, X21, ⟨Lc21, hQ21, l21, y21, z21⟩, st21⟩ := Jvm.LawKit.callS X20 hx (y := (⟨"com/example/notate/notate/schema/NumberRange", "of", "(I)Lcom/example/notate/notate/schema/NumberRange;"⟩ : MethodName)) hown (mvT hZ (hw _ (List.mem_of_getElem? (i := 25) rfl))) (mvT hZ (hw _ (List.mem_of_getElem? (i := 26) rfl))) (mvT hZ (hw _ (List.mem_of_getElem? (i := 9) rfl))) (mvT hZ (hw _ (List.mem_of_getElem? (i := 27) rfl))) (by decide) (backOf (W := 0) (rm_6 l Z a0 hw [] x0 T17.heap n0 Z17 ) hZ (hw _ (List.mem_of_getElem? (i := 27) rfl)) (hw _ (List.mem_of_getElem? (i := 9) rfl)) (by decide) (by decide)) (g := (mkF m 59 #[.val (.int x0), .val (.int x1), .val (.int lo), .val (.int hi), .val (.ref b16), .val (.long (((hi.toInt64) - (lo.toInt64)) + (1 : Int64))), .second, .val (.int (1 : Int32)), .unset] [(.int x0)])) rfl (by rw [hml]; rfl) (argsL := [(.int x0)]) (rest := []) (lenOf pd__I_Lcom_example_notate_notate_schema_NumberRange_ rfl) rfl (by show 2 * 0 + _ ≤ _; exact Nat.le_of_eq rfl) (hb hby at_59) (fun _ _ => ⟨rfl, e20q, (by decide : 1 + 1 ≤ _), (by decide : 2 + 2 ≤ _)⟩)
    dsimp only [Pt.U, Pt.locs, Pt.cells, Pt.slots] at X21 l21 y21 z21 st21 hQ21
    subst l21 y21 z21
    obtain ⟨b21, rfl, N21q, K21q, g_b21, E21q, Fa21q, Fb21q⟩ := hQ21
    have N21 := Fr.app N20 N21q
    have K21 : Keep h0 T21.heap [] := K17.trans K21q all0
    have Z21 : n0 ≤ T21.heap.size := (Nat.le_trans Z17 K21q.1)
    obtain ⟨cq22, kq22, q22a, q22b, q22c⟩ := isOf hZ rfl E21q
    obtain ⟨_, _, ⟨T22, L22, k22, n22⟩, -, X22, ⟨Lc22, hQ22, l22, y22, z22⟩, st22⟩ := X21.virtualBack hx (y := (⟨"com/example/notate/notate/schema/NumberRange", "isSingle", "()Z"⟩ : MethodName)) (z := (⟨"com/example/notate/notate/schema/NumberRange", "isSingle", "()Z"⟩ : MethodName)) hown (mvT hZ (hw _ (List.mem_of_getElem? (i := 20) rfl))) (mvT hZ (hw _ (List.mem_of_getElem? (i := 21) rfl))) (notFace_of_selects (args := #[]) (mvT hZ (hw _ (List.mem_of_getElem? (i := 23) rfl)))) (mvT hZ (hw _ (List.mem_of_getElem? (i := 23) rfl))) (mvT hZ (hw _ (List.mem_of_getElem? (i := 22) rfl))) (by decide) (backOf (W := 0) (rm_5 l Z a0 hw [] b21 x0 x0 (1 : Int32) T21.heap n0 Z21 Fa21q Fb21q (if_pos rfl)) hZ (hw _ (List.mem_of_getElem? (i := 24) rfl)) (hw _ (List.mem_of_getElem? (i := 9) rfl)) (by decide) (by decide)) q22a q22c (g := (mkF m 62 #[.val (.int x0), .val (.int x1), .val (.int lo), .val (.int hi), .val (.ref b16), .val (.long (((hi.toInt64) - (lo.toInt64)) + (1 : Int64))), .second, .val (.int (1 : Int32)), .unset] [(.ref b21)])) rfl (by rw [hml]; rfl) (Steps.refl _) (argsL := []) (rest := []) (lenOf pd___Z rfl) rfl (by show 2 * 0 + _ ≤ _; exact Nat.le_of_eq rfl) (hb hby at_62) (fun _ _ => ⟨rfl, rfl, (by decide : 2 + 0 ≤ _), (by decide : 4 + 0 ≤ _)⟩)
    dsimp only [Pt.U, Pt.locs, Pt.cells, Pt.slots] at X22 l22 y22 z22 st22 hQ22
    subst l22 y22 z22
    obtain ⟨rfl, N22q, e22q⟩ := hQ22
    have N22 := Fr.app N21 N22q
    have pw23 : ∀ t, Steps p.tables e below (T22.setTop (mkF m 73 #[.val (.int x0), .val (.int x1), .val (.int lo), .val (.int hi), .val (.ref b16), .val (.long (((hi.toInt64) - (lo.toInt64)) + (1 : Int64))), .second, .val (.int (1 : Int32)), .unset] [(.int (2147483647 : Int32)), (.int lo)])) t → Steps p.tables e below (s₁.setTop (entryFrame m #[(.int x0), (.int x1)] maxLocals)) t := by
      intro t k
      refine pw18 t ?_
      refine XS.ifNo X17.here hx rfl (hb hby at_36) rfl ((if0 _ _).trans (teq ((lw_eq (((hi.toInt64) - (lo.toInt64)) + (1 : Int64)) (1 : Int64)).2 hc19)).2) ?_
      show Steps p.tables e below (T17.setTop (mkF m 39 #[.val (.int x0), .val (.int x1), .val (.int lo), .val (.int hi), .val (.ref b16), .val (.long (((hi.toInt64) - (lo.toInt64)) + (1 : Int64))), .second, .unset, .unset] [])) _
      refine XS.iconst X17.here hx rfl (hb hby at_39) ?_
      show Steps p.tables e below (T17.setTop (mkF m 40 #[.val (.int x0), .val (.int x1), .val (.int lo), .val (.int hi), .val (.ref b16), .val (.long (((hi.toInt64) - (lo.toInt64)) + (1 : Int64))), .second, .unset, .unset] [(.int (1 : Int32))])) _
      refine XS.goto X17.here hx rfl (pc0 := 40) (pc' := 44) rfl (hb hby at_40) (by decide) (by decide) ?_
      show Steps p.tables e below (T17.setTop (mkF m 44 #[.val (.int x0), .val (.int x1), .val (.int lo), .val (.int hi), .val (.ref b16), .val (.long (((hi.toInt64) - (lo.toInt64)) + (1 : Int64))), .second, .unset, .unset] [(.int (1 : Int32))])) _
      refine XS.istore X17.here hx rfl (hb hby at_44) rfl (l' := #[.val (.int x0), .val (.int x1), .val (.int lo), .val (.int hi), .val (.ref b16), .val (.long (((hi.toInt64) - (lo.toInt64)) + (1 : Int64))), .second, .val (.int (1 : Int32)), .unset]) rfl ?_
      show Steps p.tables e below (T17.setTop (mkF m 46 #[.val (.int x0), .val (.int x1), .val (.int lo), .val (.int hi), .val (.ref b16), .val (.long (((hi.toInt64) - (lo.toInt64)) + (1 : Int64))), .second, .val (.int (1 : Int32)), .unset] [])) _
      refine XS.aload X17.here hx rfl (hb hby at_46) rfl rfl ?_
      show Steps p.tables e below (T17.setTop (mkF m 48 #[.val (.int x0), .val (.int x1), .val (.int lo), .val (.int hi), .val (.ref b16), .val (.long (((hi.toInt64) - (lo.toInt64)) + (1 : Int64))), .second, .val (.int (1 : Int32)), .unset] [(.ref b16)])) _
      refine st20.trans ?_
      show Steps p.tables e below (T20.setTop (mkF m 51 #[.val (.int x0), .val (.int x1), .val (.int lo), .val (.int hi), .val (.ref b16), .val (.long (((hi.toInt64) - (lo.toInt64)) + (1 : Int64))), .second, .val (.int (1 : Int32)), .unset] [(.int (1 : Int32))])) _
      refine XS.iload X20.here hx rfl (hb hby at_51) rfl ?_
      show Steps p.tables e below (T20.setTop (mkF m 53 #[.val (.int x0), .val (.int x1), .val (.int lo), .val (.int hi), .val (.ref b16), .val (.long (((hi.toInt64) - (lo.toInt64)) + (1 : Int64))), .second, .val (.int (1 : Int32)), .unset] [(.int (1 : Int32)), (.int (1 : Int32))])) _
      refine XS.icmpYes X20.here hx rfl (pc0 := 53) (pc' := 58) rfl (hb hby at_53) rfl (teq (by decide : (1 : Int32) = (1 : Int32))).1 (by decide) (by decide) ?_
      show Steps p.tables e below (T20.setTop (mkF m 58 #[.val (.int x0), .val (.int x1), .val (.int lo), .val (.int hi), .val (.ref b16), .val (.long (((hi.toInt64) - (lo.toInt64)) + (1 : Int64))), .second, .val (.int (1 : Int32)), .unset] [])) _
      refine XS.iloadN X20.here hx rfl (hb hby at_58) rfl ?_
      show Steps p.tables e below (T20.setTop (mkF m 59 #[.val (.int x0), .val (.int x1), .val (.int lo), .val (.int hi), .val (.ref b16), .val (.long (((hi.toInt64) - (lo.toInt64)) + (1 : Int64))), .second, .val (.int (1 : Int32)), .unset] [(.int x0)])) _
      refine st21 _ ?_
      show Steps p.tables e below (T21.setTop (mkF m 62 #[.val (.int x0), .val (.int x1), .val (.int lo), .val (.int hi), .val (.ref b16), .val (.long (((hi.toInt64) - (lo.toInt64)) + (1 : Int64))), .second, .val (.int (1 : Int32)), .unset] [(.ref b21)])) _
      refine st22.trans ?_
      show Steps p.tables e below (T22.setTop (mkF m 65 #[.val (.int x0), .val (.int x1), .val (.int lo), .val (.int hi), .val (.ref b16), .val (.long (((hi.toInt64) - (lo.toInt64)) + (1 : Int64))), .second, .val (.int (1 : Int32)), .unset] [(.int (1 : Int32))])) _
      refine XS.ifYes X22.here hx rfl (pc0 := 65) (pc' := 70) rfl (hb hby at_65) rfl ((if0 _ _).trans (feq (by decide : ¬ ((1 : Int32) = (0 : Int32)))).2) (by decide) (by decide) ?_
      show Steps p.tables e below (T22.setTop (mkF m 70 #[.val (.int x0), .val (.int x1), .val (.int lo), .val (.int hi), .val (.ref b16), .val (.long (((hi.toInt64) - (lo.toInt64)) + (1 : Int64))), .second, .val (.int (1 : Int32)), .unset] [])) _
      refine XS.iloadN X22.here hx rfl (hb hby at_70) rfl ?_
      show Steps p.tables e below (T22.setTop (mkF m 71 #[.val (.int x0), .val (.int x1), .val (.int lo), .val (.int hi), .val (.ref b16), .val (.long (((hi.toInt64) - (lo.toInt64)) + (1 : Int64))), .second, .val (.int (1 : Int32)), .unset] [(.int lo)])) _
      refine X22.ldcInt hx hown (mvT hZ (hw _ (List.mem_of_getElem? (i := 30) rfl))) (g := (mkF m 71 #[.val (.int x0), .val (.int x1), .val (.int lo), .val (.int hi), .val (.ref b16), .val (.long (((hi.toInt64) - (lo.toInt64)) + (1 : Int64))), .second, .val (.int (1 : Int32)), .unset] [(.int lo)])) rfl (hb hby at_71) _ ?_
      show Steps p.tables e below (T22.setTop (mkF m 73 #[.val (.int x0), .val (.int x1), .val (.int lo), .val (.int hi), .val (.ref b16), .val (.long (((hi.toInt64) - (lo.toInt64)) + (1 : Int64))), .second, .val (.int (1 : Int32)), .unset] [(.int (2147483647 : Int32)), (.int lo)])) _
      exact k
    by_cases hc24 : lo = (2147483647 : Int32)
    · skip
      obtain ⟨fs, hr, hrun, hended, hW, hsame⟩ := X22.leave (v := some (.int (1 : Int32))) (fun h => by rw [Bd.returns] at h; cases h)
      refine ⟨_, _, pw23 _ ?_, hrun, hended, _, _, rfl, ?_, ⟨_, rfl⟩, hW, hsame.mono (by decide) (by decide)⟩
      · skip
        refine XS.icmpYes X22.here hx rfl (pc0 := 73) (pc' := 99) rfl (hb hby at_73) rfl (teq hc24).1 (by decide) (by decide) ?_
        show Steps p.tables e below (T22.setTop (mkF m 99 #[.val (.int x0), .val (.int x1), .val (.int lo), .val (.int hi), .val (.ref b16), .val (.long (((hi.toInt64) - (lo.toInt64)) + (1 : Int64))), .second, .val (.int (1 : Int32)), .unset] [])) _
        refine XS.iconst X22.here hx rfl (hb hby at_99) ?_
        show Steps p.tables e below (T22.setTop (mkF m 100 #[.val (.int x0), .val (.int x1), .val (.int lo), .val (.int hi), .val (.ref b16), .val (.long (((hi.toInt64) - (lo.toInt64)) + (1 : Int64))), .second, .val (.int (1 : Int32)), .unset] [(.int (1 : Int32))])) _
        exact retN X22 hx (t := .boolean) Bd.returns (by simp) (hb hby at_100) hr
      · show Q_0 Z x0 x1 lo hi h0 n0 _ T22.heap _
        rw [e22q]
        exact ⟨rfl, N22⟩
    · skip
      obtain ⟨T25, h25, X25, e25, E25, A25, D25, -, st25⟩ := newO X22 hx hZ hown (hw _ (List.mem_of_getElem? (i := 7) rfl)) (hw _ (List.mem_of_getElem? (i := 8) rfl)) (hw _ (List.mem_of_getElem? (i := 9) rfl)) e22q (g := (mkF m 76 #[.val (.int x0), .val (.int x1), .val (.int lo), .val (.int hi), .val (.ref b16), .val (.long (((hi.toInt64) - (lo.toInt64)) + (1 : Int64))), .second, .val (.int (1 : Int32)), .unset] [])) rfl (hb hby at_76) (by decide) (by decide)
      obtain ⟨b25, g25⟩ : ∃ z, z = T21.heap.size := ⟨_, rfl⟩
      rw [← g25] at A25 D25 st25
      have g_b25 : n0 ≤ b25 := Nat.le_trans Z21 (Nat.le_of_eq g25.symm)
      have sz_b25 : h0.size ≤ b25 := Nat.le_trans K21.1 (Nat.le_of_eq g25.symm)
      have F_first_b25 : Fld Z h25 b25 "com/example/notate/notate/schema/NumberRange" "first" "I" (.int (0 : Int32)) := D25 (Or.inr (hw _ (List.mem_of_getElem? (i := 17) rfl))) (ty := .int) (by decide)
      have F_last_b25 : Fld Z h25 b25 "com/example/notate/notate/schema/NumberRange" "last" "I" (.int (0 : Int32)) := D25 (Or.inr (hw _ (List.mem_of_getElem? (i := 19) rfl))) (ty := .int) (by decide)
      have K25 : Keep h0 h25 [] := K21.ext E25
      have Z25 : n0 ≤ h25.size := (Nat.le_trans Z21 E25.1)
      obtain ⟨_, _, ⟨T26, L26, k26, n26⟩, -, X26, ⟨Lc26, hQ26, l26, y26, z26⟩, st26⟩ := X25.specialBack hx (y := (⟨"com/example/notate/notate/schema/NumberRange", "<init>", "(II)V"⟩ : MethodName)) rfl hown (mvT hZ (hw _ (List.mem_of_getElem? (i := 10) rfl))) (mvT hZ (hw _ (List.mem_of_getElem? (i := 11) rfl))) (mvT hZ (hw _ (List.mem_of_getElem? (i := 12) rfl))) (by decide) (backOf (W := 1) (rm_3 l Z a0 hw [] b25 lo (lo + (1 : Int32)) _ _ h25 n0 Z25 A25 F_first_b25 F_last_b25 g_b25 (own_succ lo hc24).1) hZ (hw _ (List.mem_of_getElem? (i := 12) rfl)) (hw _ (List.mem_of_getElem? (i := 9) rfl)) (by decide) (by decide)) (g := (mkF m 84 #[.val (.int x0), .val (.int x1), .val (.int lo), .val (.int hi), .val (.ref b16), .val (.long (((hi.toInt64) - (lo.toInt64)) + (1 : Int64))), .second, .val (.int (1 : Int32)), .unset] [(.int (lo + (1 : Int32))), (.int lo), (.ref b25), (.ref b25)])) rfl (by rw [hml]; rfl) (Steps.refl _) (a := b25) (argsL := [(.int lo), (.int (lo + (1 : Int32)))]) (rest := [(.ref b25)]) (lenOf pd__II_V rfl) rfl (by show 2 * 0 + _ ≤ _; exact Nat.le_of_eq rfl) (hb hby at_84) (fun _ _ => ⟨rfl, e25, (by decide : 3 + 0 ≤ _), (by decide : 6 + 0 ≤ _)⟩)
      dsimp only [Pt.U, Pt.locs, Pt.cells, Pt.slots] at X26 l26 y26 z26 st26 hQ26
      subst l26 y26 z26
      obtain ⟨rfl, N26q, K26q, E26q, Fa26q, Fb26q⟩ := hQ26
      have N26 := Fr.app N22 N26q
      have K26 : Keep h0 T26.heap [] := K25.trans K26q (allS (P := fun x => x ∈ [] ∨ h0.size ≤ x) (Or.inr sz_b25) all0)
      have Z26 : n0 ≤ T26.heap.size := (Nat.le_trans Z25 K26q.1)
      obtain ⟨cq27, kq27, q27a, q27b, q27c⟩ := isOf hZ rfl E26q
      obtain ⟨_, _, ⟨T27, L27, k27, n27⟩, -, X27, ⟨Lc27, hQ27, l27, y27, z27⟩, st27⟩ := X26.virtualBack hx (y := (⟨"com/example/notate/notate/schema/NumberRange", "isSingle", "()Z"⟩ : MethodName)) (z := (⟨"com/example/notate/notate/schema/NumberRange", "isSingle", "()Z"⟩ : MethodName)) hown (mvT hZ (hw _ (List.mem_of_getElem? (i := 20) rfl))) (mvT hZ (hw _ (List.mem_of_getElem? (i := 21) rfl))) (notFace_of_selects (args := #[]) (mvT hZ (hw _ (List.mem_of_getElem? (i := 23) rfl)))) (mvT hZ (hw _ (List.mem_of_getElem? (i := 23) rfl))) (mvT hZ (hw _ (List.mem_of_getElem? (i := 22) rfl))) (by decide) (backOf (W := 0) (rm_5 l Z a0 hw [] b25 lo (lo + (1 : Int32)) (0 : Int32) T26.heap n0 Z26 Fa26q Fb26q (if_neg (own_succ lo hc24).2)) hZ (hw _ (List.mem_of_getElem? (i := 24) rfl)) (hw _ (List.mem_of_getElem? (i := 9) rfl)) (by decide) (by decide)) q27a q27c (g := (mkF m 91 #[.val (.int x0), .val (.int x1), .val (.int lo), .val (.int hi), .val (.ref b16), .val (.long (((hi.toInt64) - (lo.toInt64)) + (1 : Int64))), .second, .val (.int (1 : Int32)), .val (.ref b25)] [(.ref b25)])) rfl (by rw [hml]; rfl) (Steps.refl _) (argsL := []) (rest := []) (lenOf pd___Z rfl) rfl (by show 2 * 0 + _ ≤ _; exact Nat.le_of_eq rfl) (hb hby at_91) (fun _ _ => ⟨rfl, rfl, (by decide : 3 + 0 ≤ _), (by decide : 6 + 0 ≤ _)⟩)
      dsimp only [Pt.U, Pt.locs, Pt.cells, Pt.slots] at X27 l27 y27 z27 st27 hQ27
      subst l27 y27 z27
      obtain ⟨rfl, N27q, e27q⟩ := hQ27
      have N27 := Fr.app N26 N27q
      obtain ⟨fs, hr, hrun, hended, hW, hsame⟩ := X27.leave (v := some (.int (1 : Int32))) (fun h => by rw [Bd.returns] at h; cases h)
      refine ⟨_, _, pw23 _ ?_, hrun, hended, _, _, rfl, ?_, ⟨_, rfl⟩, hW, hsame.mono (by decide) (by decide)⟩
      · skip
        refine XS.icmpNo X22.here hx rfl (hb hby at_73) rfl (feq hc24).1 ?_
        show Steps p.tables e below (T22.setTop (mkF m 76 #[.val (.int x0), .val (.int x1), .val (.int lo), .val (.int hi), .val (.ref b16), .val (.long (((hi.toInt64) - (lo.toInt64)) + (1 : Int64))), .second, .val (.int (1 : Int32)), .unset] [])) _
        refine st25 _ ?_
        show Steps p.tables e below (T25.setTop (mkF m 79 #[.val (.int x0), .val (.int x1), .val (.int lo), .val (.int hi), .val (.ref b16), .val (.long (((hi.toInt64) - (lo.toInt64)) + (1 : Int64))), .second, .val (.int (1 : Int32)), .unset] [(.ref b25)])) _
        refine XS.dup X25.here hx rfl (hb hby at_79) rfl rfl ?_
        show Steps p.tables e below (T25.setTop (mkF m 80 #[.val (.int x0), .val (.int x1), .val (.int lo), .val (.int hi), .val (.ref b16), .val (.long (((hi.toInt64) - (lo.toInt64)) + (1 : Int64))), .second, .val (.int (1 : Int32)), .unset] [(.ref b25), (.ref b25)])) _
        refine XS.iloadN X25.here hx rfl (hb hby at_80) rfl ?_
        show Steps p.tables e below (T25.setTop (mkF m 81 #[.val (.int x0), .val (.int x1), .val (.int lo), .val (.int hi), .val (.ref b16), .val (.long (((hi.toInt64) - (lo.toInt64)) + (1 : Int64))), .second, .val (.int (1 : Int32)), .unset] [(.int lo), (.ref b25), (.ref b25)])) _
        refine XS.iloadN X25.here hx rfl (hb hby at_81) rfl ?_
        show Steps p.tables e below (T25.setTop (mkF m 82 #[.val (.int x0), .val (.int x1), .val (.int lo), .val (.int hi), .val (.ref b16), .val (.long (((hi.toInt64) - (lo.toInt64)) + (1 : Int64))), .second, .val (.int (1 : Int32)), .unset] [(.int lo), (.int lo), (.ref b25), (.ref b25)])) _
        refine XS.iconst X25.here hx rfl (hb hby at_82) ?_
        show Steps p.tables e below (T25.setTop (mkF m 83 #[.val (.int x0), .val (.int x1), .val (.int lo), .val (.int hi), .val (.ref b16), .val (.long (((hi.toInt64) - (lo.toInt64)) + (1 : Int64))), .second, .val (.int (1 : Int32)), .unset] [(.int (1 : Int32)), (.int lo), (.int lo), (.ref b25), (.ref b25)])) _
        refine XS.iadd X25.here hx rfl (hb hby at_83) rfl ?_
        show Steps p.tables e below (T25.setTop (mkF m 84 #[.val (.int x0), .val (.int x1), .val (.int lo), .val (.int hi), .val (.ref b16), .val (.long (((hi.toInt64) - (lo.toInt64)) + (1 : Int64))), .second, .val (.int (1 : Int32)), .unset] [(.int (lo + (1 : Int32))), (.int lo), (.ref b25), (.ref b25)])) _
        refine st26.trans ?_
        show Steps p.tables e below (T26.setTop (mkF m 87 #[.val (.int x0), .val (.int x1), .val (.int lo), .val (.int hi), .val (.ref b16), .val (.long (((hi.toInt64) - (lo.toInt64)) + (1 : Int64))), .second, .val (.int (1 : Int32)), .unset] [(.ref b25)])) _
        refine XS.astore X26.here hx rfl (hb hby at_87) rfl rfl (l' := #[.val (.int x0), .val (.int x1), .val (.int lo), .val (.int hi), .val (.ref b16), .val (.long (((hi.toInt64) - (lo.toInt64)) + (1 : Int64))), .second, .val (.int (1 : Int32)), .val (.ref b25)]) rfl ?_
        show Steps p.tables e below (T26.setTop (mkF m 89 #[.val (.int x0), .val (.int x1), .val (.int lo), .val (.int hi), .val (.ref b16), .val (.long (((hi.toInt64) - (lo.toInt64)) + (1 : Int64))), .second, .val (.int (1 : Int32)), .val (.ref b25)] [])) _
        refine XS.aload X26.here hx rfl (hb hby at_89) rfl rfl ?_
        show Steps p.tables e below (T26.setTop (mkF m 91 #[.val (.int x0), .val (.int x1), .val (.int lo), .val (.int hi), .val (.ref b16), .val (.long (((hi.toInt64) - (lo.toInt64)) + (1 : Int64))), .second, .val (.int (1 : Int32)), .val (.ref b25)] [(.ref b25)])) _
        refine st27.trans ?_
        show Steps p.tables e below (T27.setTop (mkF m 94 #[.val (.int x0), .val (.int x1), .val (.int lo), .val (.int hi), .val (.ref b16), .val (.long (((hi.toInt64) - (lo.toInt64)) + (1 : Int64))), .second, .val (.int (1 : Int32)), .val (.ref b25)] [(.int (0 : Int32))])) _
        refine XS.ifYes X27.here hx rfl (pc0 := 94) (pc' := 99) rfl (hb hby at_94) rfl ((if0 _ _).trans (teq (by decide : (0 : Int32) = (0 : Int32))).1) (by decide) (by decide) ?_
        show Steps p.tables e below (T27.setTop (mkF m 99 #[.val (.int x0), .val (.int x1), .val (.int lo), .val (.int hi), .val (.ref b16), .val (.long (((hi.toInt64) - (lo.toInt64)) + (1 : Int64))), .second, .val (.int (1 : Int32)), .val (.ref b25)] [])) _
        refine XS.iconst X27.here hx rfl (hb hby at_99) ?_
        show Steps p.tables e below (T27.setTop (mkF m 100 #[.val (.int x0), .val (.int x1), .val (.int lo), .val (.int hi), .val (.ref b16), .val (.long (((hi.toInt64) - (lo.toInt64)) + (1 : Int64))), .second, .val (.int (1 : Int32)), .val (.ref b25)] [(.int (1 : Int32))])) _
        exact retN X27 hx (t := .boolean) Bd.returns (by simp) (hb hby at_100) hr
      · show Q_0 Z x0 x1 lo hi h0 n0 _ T27.heap _
        rw [e27q]
        exact ⟨rfl, N27⟩
  · skip
    obtain ⟨cq28, kq28, q28a, q28b, q28c⟩ := isOf hZ rfl E17q
    obtain ⟨_, _, ⟨T28, L28, k28, n28⟩, -, X28, ⟨Lc28, hQ28, l28, y28, z28⟩, st28⟩ := X17.virtualBack hx (y := (⟨"com/example/notate/notate/schema/NumberRange", "isSingle", "()Z"⟩ : MethodName)) (z := (⟨"com/example/notate/notate/schema/NumberRange", "isSingle", "()Z"⟩ : MethodName)) hown (mvT hZ (hw _ (List.mem_of_getElem? (i := 20) rfl))) (mvT hZ (hw _ (List.mem_of_getElem? (i := 21) rfl))) (notFace_of_selects (args := #[]) (mvT hZ (hw _ (List.mem_of_getElem? (i := 23) rfl)))) (mvT hZ (hw _ (List.mem_of_getElem? (i := 23) rfl))) (mvT hZ (hw _ (List.mem_of_getElem? (i := 22) rfl))) (by decide) (backOf (W := 0) (rm_5 l Z a0 hw [] b16 lo hi (0 : Int32) T17.heap n0 Z17 Fa17q Fb17q (if_neg (mt (own_cnt lo hi).2 hc19))) hZ (hw _ (List.mem_of_getElem? (i := 24) rfl)) (hw _ (List.mem_of_getElem? (i := 9) rfl)) (by decide) (by decide)) q28a q28c (g := (mkF m 48 #[.val (.int x0), .val (.int x1), .val (.int lo), .val (.int hi), .val (.ref b16), .val (.long (((hi.toInt64) - (lo.toInt64)) + (1 : Int64))), .second, .val (.int (0 : Int32)), .unset] [(.ref b16)])) rfl (by rw [hml]; rfl) (Steps.refl _) (argsL := []) (rest := []) (lenOf pd___Z rfl) rfl (by show 2 * 0 + _ ≤ _; exact Nat.le_of_eq rfl) (hb hby at_48) (fun _ _ => ⟨rfl, rfl, (by decide : 1 + 0 ≤ _), (by decide : 2 + 0 ≤ _)⟩)
    dsimp only [Pt.U, Pt.locs, Pt.cells, Pt.slots] at X28 l28 y28 z28 st28 hQ28
    subst l28 y28 z28
    obtain ⟨rfl, N28q, e28q⟩ := hQ28
    have N28 := Fr.app N17 N28q
    obtain ⟨_, _, ⟨T29, L29, k29, n29⟩, -, X29, ⟨Lc29, hQ29, l29, y29, z29⟩, st29⟩ := Jvm.LawKit.callS X28 hx (y := (⟨"com/example/notate/notate/schema/NumberRange", "of", "(I)Lcom/example/notate/notate/schema/NumberRange;"⟩ : MethodName)) hown (mvT hZ (hw _ (List.mem_of_getElem? (i := 25) rfl))) (mvT hZ (hw _ (List.mem_of_getElem? (i := 26) rfl))) (mvT hZ (hw _ (List.mem_of_getElem? (i := 9) rfl))) (mvT hZ (hw _ (List.mem_of_getElem? (i := 27) rfl))) (by decide) (backOf (W := 0) (rm_6 l Z a0 hw [] x0 T17.heap n0 Z17 ) hZ (hw _ (List.mem_of_getElem? (i := 27) rfl)) (hw _ (List.mem_of_getElem? (i := 9) rfl)) (by decide) (by decide)) (g := (mkF m 59 #[.val (.int x0), .val (.int x1), .val (.int lo), .val (.int hi), .val (.ref b16), .val (.long (((hi.toInt64) - (lo.toInt64)) + (1 : Int64))), .second, .val (.int (0 : Int32)), .unset] [(.int x0)])) rfl (by rw [hml]; rfl) (argsL := [(.int x0)]) (rest := []) (lenOf pd__I_Lcom_example_notate_notate_schema_NumberRange_ rfl) rfl (by show 2 * 0 + _ ≤ _; exact Nat.le_of_eq rfl) (hb hby at_59) (fun _ _ => ⟨rfl, e28q, (by decide : 1 + 1 ≤ _), (by decide : 2 + 2 ≤ _)⟩)
    dsimp only [Pt.U, Pt.locs, Pt.cells, Pt.slots] at X29 l29 y29 z29 st29 hQ29
    subst l29 y29 z29
    obtain ⟨b29, rfl, N29q, K29q, g_b29, E29q, Fa29q, Fb29q⟩ := hQ29
    have N29 := Fr.app N28 N29q
    have K29 : Keep h0 T29.heap [] := K17.trans K29q all0
    have Z29 : n0 ≤ T29.heap.size := (Nat.le_trans Z17 K29q.1)
    obtain ⟨cq30, kq30, q30a, q30b, q30c⟩ := isOf hZ rfl E29q
    obtain ⟨_, _, ⟨T30, L30, k30, n30⟩, -, X30, ⟨Lc30, hQ30, l30, y30, z30⟩, st30⟩ := X29.virtualBack hx (y := (⟨"com/example/notate/notate/schema/NumberRange", "isSingle", "()Z"⟩ : MethodName)) (z := (⟨"com/example/notate/notate/schema/NumberRange", "isSingle", "()Z"⟩ : MethodName)) hown (mvT hZ (hw _ (List.mem_of_getElem? (i := 20) rfl))) (mvT hZ (hw _ (List.mem_of_getElem? (i := 21) rfl))) (notFace_of_selects (args := #[]) (mvT hZ (hw _ (List.mem_of_getElem? (i := 23) rfl)))) (mvT hZ (hw _ (List.mem_of_getElem? (i := 23) rfl))) (mvT hZ (hw _ (List.mem_of_getElem? (i := 22) rfl))) (by decide) (backOf (W := 0) (rm_5 l Z a0 hw [] b29 x0 x0 (1 : Int32) T29.heap n0 Z29 Fa29q Fb29q (if_pos rfl)) hZ (hw _ (List.mem_of_getElem? (i := 24) rfl)) (hw _ (List.mem_of_getElem? (i := 9) rfl)) (by decide) (by decide)) q30a q30c (g := (mkF m 62 #[.val (.int x0), .val (.int x1), .val (.int lo), .val (.int hi), .val (.ref b16), .val (.long (((hi.toInt64) - (lo.toInt64)) + (1 : Int64))), .second, .val (.int (0 : Int32)), .unset] [(.ref b29)])) rfl (by rw [hml]; rfl) (Steps.refl _) (argsL := []) (rest := []) (lenOf pd___Z rfl) rfl (by show 2 * 0 + _ ≤ _; exact Nat.le_of_eq rfl) (hb hby at_62) (fun _ _ => ⟨rfl, rfl, (by decide : 2 + 0 ≤ _), (by decide : 4 + 0 ≤ _)⟩)
    dsimp only [Pt.U, Pt.locs, Pt.cells, Pt.slots] at X30 l30 y30 z30 st30 hQ30
    subst l30 y30 z30
    obtain ⟨rfl, N30q, e30q⟩ := hQ30
    have N30 := Fr.app N29 N30q
    have pw31 : ∀ t, Steps p.tables e below (T30.setTop (mkF m 73 #[.val (.int x0), .val (.int x1), .val (.int lo), .val (.int hi), .val (.ref b16), .val (.long (((hi.toInt64) - (lo.toInt64)) + (1 : Int64))), .second, .val (.int (0 : Int32)), .unset] [(.int (2147483647 : Int32)), (.int lo)])) t → Steps p.tables e below (s₁.setTop (entryFrame m #[(.int x0), (.int x1)] maxLocals)) t := by
      intro t k
      refine pw18 t ?_
      refine XS.ifYes X17.here hx rfl (pc0 := 36) (pc' := 43) rfl (hb hby at_36) rfl ((if0 _ _).trans (feq (mt (lw_eq (((hi.toInt64) - (lo.toInt64)) + (1 : Int64)) (1 : Int64)).1 hc19)).2) (by decide) (by decide) ?_
      show Steps p.tables e below (T17.setTop (mkF m 43 #[.val (.int x0), .val (.int x1), .val (.int lo), .val (.int hi), .val (.ref b16), .val (.long (((hi.toInt64) - (lo.toInt64)) + (1 : Int64))), .second, .unset, .unset] [])) _
      refine XS.iconst X17.here hx rfl (hb hby at_43) ?_
      show Steps p.tables e below (T17.setTop (mkF m 44 #[.val (.int x0), .val (.int x1), .val (.int lo), .val (.int hi), .val (.ref b16), .val (.long (((hi.toInt64) - (lo.toInt64)) + (1 : Int64))), .second, .unset, .unset] [(.int (0 : Int32))])) _
      refine XS.istore X17.here hx rfl (hb hby at_44) rfl (l' := #[.val (.int x0), .val (.int x1), .val (.int lo), .val (.int hi), .val (.ref b16), .val (.long (((hi.toInt64) - (lo.toInt64)) + (1 : Int64))), .second, .val (.int (0 : Int32)), .unset]) rfl ?_
      show Steps p.tables e below (T17.setTop (mkF m 46 #[.val (.int x0), .val (.int x1), .val (.int lo), .val (.int hi), .val (.ref b16), .val (.long (((hi.toInt64) - (lo.toInt64)) + (1 : Int64))), .second, .val (.int (0 : Int32)), .unset] [])) _
      refine XS.aload X17.here hx rfl (hb hby at_46) rfl rfl ?_
      show Steps p.tables e below (T17.setTop (mkF m 48 #[.val (.int x0), .val (.int x1), .val (.int lo), .val (.int hi), .val (.ref b16), .val (.long (((hi.toInt64) - (lo.toInt64)) + (1 : Int64))), .second, .val (.int (0 : Int32)), .unset] [(.ref b16)])) _
      refine st28.trans ?_
      show Steps p.tables e below (T28.setTop (mkF m 51 #[.val (.int x0), .val (.int x1), .val (.int lo), .val (.int hi), .val (.ref b16), .val (.long (((hi.toInt64) - (lo.toInt64)) + (1 : Int64))), .second, .val (.int (0 : Int32)), .unset] [(.int (0 : Int32))])) _
      refine XS.iload X28.here hx rfl (hb hby at_51) rfl ?_
      show Steps p.tables e below (T28.setTop (mkF m 53 #[.val (.int x0), .val (.int x1), .val (.int lo), .val (.int hi), .val (.ref b16), .val (.long (((hi.toInt64) - (lo.toInt64)) + (1 : Int64))), .second, .val (.int (0 : Int32)), .unset] [(.int (0 : Int32)), (.int (0 : Int32))])) _
      refine XS.icmpYes X28.here hx rfl (pc0 := 53) (pc' := 58) rfl (hb hby at_53) rfl (teq (by decide : (0 : Int32) = (0 : Int32))).1 (by decide) (by decide) ?_
      show Steps p.tables e below (T28.setTop (mkF m 58 #[.val (.int x0), .val (.int x1), .val (.int lo), .val (.int hi), .val (.ref b16), .val (.long (((hi.toInt64) - (lo.toInt64)) + (1 : Int64))), .second, .val (.int (0 : Int32)), .unset] [])) _
      refine XS.iloadN X28.here hx rfl (hb hby at_58) rfl ?_
      show Steps p.tables e below (T28.setTop (mkF m 59 #[.val (.int x0), .val (.int x1), .val (.int lo), .val (.int hi), .val (.ref b16), .val (.long (((hi.toInt64) - (lo.toInt64)) + (1 : Int64))), .second, .val (.int (0 : Int32)), .unset] [(.int x0)])) _
      refine st29 _ ?_
      show Steps p.tables e below (T29.setTop (mkF m 62 #[.val (.int x0), .val (.int x1), .val (.int lo), .val (.int hi), .val (.ref b16), .val (.long (((hi.toInt64) - (lo.toInt64)) + (1 : Int64))), .second, .val (.int (0 : Int32)), .unset] [(.ref b29)])) _
      refine st30.trans ?_
      show Steps p.tables e below (T30.setTop (mkF m 65 #[.val (.int x0), .val (.int x1), .val (.int lo), .val (.int hi), .val (.ref b16), .val (.long (((hi.toInt64) - (lo.toInt64)) + (1 : Int64))), .second, .val (.int (0 : Int32)), .unset] [(.int (1 : Int32))])) _
      refine XS.ifYes X30.here hx rfl (pc0 := 65) (pc' := 70) rfl (hb hby at_65) rfl ((if0 _ _).trans (feq (by decide : ¬ ((1 : Int32) = (0 : Int32)))).2) (by decide) (by decide) ?_
      show Steps p.tables e below (T30.setTop (mkF m 70 #[.val (.int x0), .val (.int x1), .val (.int lo), .val (.int hi), .val (.ref b16), .val (.long (((hi.toInt64) - (lo.toInt64)) + (1 : Int64))), .second, .val (.int (0 : Int32)), .unset] [])) _
      refine XS.iloadN X30.here hx rfl (hb hby at_70) rfl ?_
      show Steps p.tables e below (T30.setTop (mkF m 71 #[.val (.int x0), .val (.int x1), .val (.int lo), .val (.int hi), .val (.ref b16), .val (.long (((hi.toInt64) - (lo.toInt64)) + (1 : Int64))), .second, .val (.int (0 : Int32)), .unset] [(.int lo)])) _
      refine X30.ldcInt hx hown (mvT hZ (hw _ (List.mem_of_getElem? (i := 30) rfl))) (g := (mkF m 71 #[.val (.int x0), .val (.int x1), .val (.int lo), .val (.int hi), .val (.ref b16), .val (.long (((hi.toInt64) - (lo.toInt64)) + (1 : Int64))), .second, .val (.int (0 : Int32)), .unset] [(.int lo)])) rfl (hb hby at_71) _ ?_
      show Steps p.tables e below (T30.setTop (mkF m 73 #[.val (.int x0), .val (.int x1), .val (.int lo), .val (.int hi), .val (.ref b16), .val (.long (((hi.toInt64) - (lo.toInt64)) + (1 : Int64))), .second, .val (.int (0 : Int32)), .unset] [(.int (2147483647 : Int32)), (.int lo)])) _
      exact k
    by_cases hc32 : lo = (2147483647 : Int32)
    · skip
      obtain ⟨fs, hr, hrun, hended, hW, hsame⟩ := X30.leave (v := some (.int (1 : Int32))) (fun h => by rw [Bd.returns] at h; cases h)
      refine ⟨_, _, pw31 _ ?_, hrun, hended, _, _, rfl, ?_, ⟨_, rfl⟩, hW, hsame.mono (by decide) (by decide)⟩
      · skip
        refine XS.icmpYes X30.here hx rfl (pc0 := 73) (pc' := 99) rfl (hb hby at_73) rfl (teq hc32).1 (by decide) (by decide) ?_
        show Steps p.tables e below (T30.setTop (mkF m 99 #[.val (.int x0), .val (.int x1), .val (.int lo), .val (.int hi), .val (.ref b16), .val (.long (((hi.toInt64) - (lo.toInt64)) + (1 : Int64))), .second, .val (.int (0 : Int32)), .unset] [])) _
        refine XS.iconst X30.here hx rfl (hb hby at_99) ?_
        show Steps p.tables e below (T30.setTop (mkF m 100 #[.val (.int x0), .val (.int x1), .val (.int lo), .val (.int hi), .val (.ref b16), .val (.long (((hi.toInt64) - (lo.toInt64)) + (1 : Int64))), .second, .val (.int (0 : Int32)), .unset] [(.int (1 : Int32))])) _
        exact retN X30 hx (t := .boolean) Bd.returns (by simp) (hb hby at_100) hr
      · show Q_0 Z x0 x1 lo hi h0 n0 _ T30.heap _
        rw [e30q]
        exact ⟨rfl, N30⟩
    · skip
      obtain ⟨T33, h33, X33, e33, E33, A33, D33, -, st33⟩ := newO X30 hx hZ hown (hw _ (List.mem_of_getElem? (i := 7) rfl)) (hw _ (List.mem_of_getElem? (i := 8) rfl)) (hw _ (List.mem_of_getElem? (i := 9) rfl)) e30q (g := (mkF m 76 #[.val (.int x0), .val (.int x1), .val (.int lo), .val (.int hi), .val (.ref b16), .val (.long (((hi.toInt64) - (lo.toInt64)) + (1 : Int64))), .second, .val (.int (0 : Int32)), .unset] [])) rfl (hb hby at_76) (by decide) (by decide)
      obtain ⟨b33, g33⟩ : ∃ z, z = T29.heap.size := ⟨_, rfl⟩
      rw [← g33] at A33 D33 st33
      have g_b33 : n0 ≤ b33 := Nat.le_trans Z29 (Nat.le_of_eq g33.symm)
      have sz_b33 : h0.size ≤ b33 := Nat.le_trans K29.1 (Nat.le_of_eq g33.symm)
      have F_first_b33 : Fld Z h33 b33 "com/example/notate/notate/schema/NumberRange" "first" "I" (.int (0 : Int32)) := D33 (Or.inr (hw _ (List.mem_of_getElem? (i := 17) rfl))) (ty := .int) (by decide)
      have F_last_b33 : Fld Z h33 b33 "com/example/notate/notate/schema/NumberRange" "last" "I" (.int (0 : Int32)) := D33 (Or.inr (hw _ (List.mem_of_getElem? (i := 19) rfl))) (ty := .int) (by decide)
      have K33 : Keep h0 h33 [] := K29.ext E33
      have Z33 : n0 ≤ h33.size := (Nat.le_trans Z29 E33.1)
      obtain ⟨_, _, ⟨T34, L34, k34, n34⟩, -, X34, ⟨Lc34, hQ34, l34, y34, z34⟩, st34⟩ := X33.specialBack hx (y := (⟨"com/example/notate/notate/schema/NumberRange", "<init>", "(II)V"⟩ : MethodName)) rfl hown (mvT hZ (hw _ (List.mem_of_getElem? (i := 10) rfl))) (mvT hZ (hw _ (List.mem_of_getElem? (i := 11) rfl))) (mvT hZ (hw _ (List.mem_of_getElem? (i := 12) rfl))) (by decide) (backOf (W := 1) (rm_3 l Z a0 hw [] b33 lo (lo + (1 : Int32)) _ _ h33 n0 Z33 A33 F_first_b33 F_last_b33 g_b33 (own_succ lo hc32).1) hZ (hw _ (List.mem_of_getElem? (i := 12) rfl)) (hw _ (List.mem_of_getElem? (i := 9) rfl)) (by decide) (by decide)) (g := (mkF m 84 #[.val (.int x0), .val (.int x1), .val (.int lo), .val (.int hi), .val (.ref b16), .val (.long (((hi.toInt64) - (lo.toInt64)) + (1 : Int64))), .second, .val (.int (0 : Int32)), .unset] [(.int (lo + (1 : Int32))), (.int lo), (.ref b33), (.ref b33)])) rfl (by rw [hml]; rfl) (Steps.refl _) (a := b33) (argsL := [(.int lo), (.int (lo + (1 : Int32)))]) (rest := [(.ref b33)]) (lenOf pd__II_V rfl) rfl (by show 2 * 0 + _ ≤ _; exact Nat.le_of_eq rfl) (hb hby at_84) (fun _ _ => ⟨rfl, e33, (by decide : 3 + 0 ≤ _), (by decide : 6 + 0 ≤ _)⟩)
      dsimp only [Pt.U, Pt.locs, Pt.cells, Pt.slots] at X34 l34 y34 z34 st34 hQ34
      subst l34 y34 z34
      obtain ⟨rfl, N34q, K34q, E34q, Fa34q, Fb34q⟩ := hQ34
      have N34 := Fr.app N30 N34q
      have K34 : Keep h0 T34.heap [] := K33.trans K34q (allS (P := fun x => x ∈ [] ∨ h0.size ≤ x) (Or.inr sz_b33) all0)
      have Z34 : n0 ≤ T34.heap.size := (Nat.le_trans Z33 K34q.1)
      obtain ⟨cq35, kq35, q35a, q35b, q35c⟩ := isOf hZ rfl E34q
      obtain ⟨_, _, ⟨T35, L35, k35, n35⟩, -, X35, ⟨Lc35, hQ35, l35, y35, z35⟩, st35⟩ := X34.virtualBack hx (y := (⟨"com/example/notate/notate/schema/NumberRange", "isSingle", "()Z"⟩ : MethodName)) (z := (⟨"com/example/notate/notate/schema/NumberRange", "isSingle", "()Z"⟩ : MethodName)) hown (mvT hZ (hw _ (List.mem_of_getElem? (i := 20) rfl))) (mvT hZ (hw _ (List.mem_of_getElem? (i := 21) rfl))) (notFace_of_selects (args := #[]) (mvT hZ (hw _ (List.mem_of_getElem? (i := 23) rfl)))) (mvT hZ (hw _ (List.mem_of_getElem? (i := 23) rfl))) (mvT hZ (hw _ (List.mem_of_getElem? (i := 22) rfl))) (by decide) (backOf (W := 0) (rm_5 l Z a0 hw [] b33 lo (lo + (1 : Int32)) (0 : Int32) T34.heap n0 Z34 Fa34q Fb34q (if_neg (own_succ lo hc32).2)) hZ (hw _ (List.mem_of_getElem? (i := 24) rfl)) (hw _ (List.mem_of_getElem? (i := 9) rfl)) (by decide) (by decide)) q35a q35c (g := (mkF m 91 #[.val (.int x0), .val (.int x1), .val (.int lo), .val (.int hi), .val (.ref b16), .val (.long (((hi.toInt64) - (lo.toInt64)) + (1 : Int64))), .second, .val (.int (0 : Int32)), .val (.ref b33)] [(.ref b33)])) rfl (by rw [hml]; rfl) (Steps.refl _) (argsL := []) (rest := []) (lenOf pd___Z rfl) rfl (by show 2 * 0 + _ ≤ _; exact Nat.le_of_eq rfl) (hb hby at_91) (fun _ _ => ⟨rfl, rfl, (by decide : 3 + 0 ≤ _), (by decide : 6 + 0 ≤ _)⟩)
      dsimp only [Pt.U, Pt.locs, Pt.cells, Pt.slots] at X35 l35 y35 z35 st35 hQ35
      subst l35 y35 z35
      obtain ⟨rfl, N35q, e35q⟩ := hQ35
      have N35 := Fr.app N34 N35q
      obtain ⟨fs, hr, hrun, hended, hW, hsame⟩ := X35.leave (v := some (.int (1 : Int32))) (fun h => by rw [Bd.returns] at h; cases h)
      refine ⟨_, _, pw31 _ ?_, hrun, hended, _, _, rfl, ?_, ⟨_, rfl⟩, hW, hsame.mono (by decide) (by decide)⟩
      · skip
        refine XS.icmpNo X30.here hx rfl (hb hby at_73) rfl (feq hc32).1 ?_
        show Steps p.tables e below (T30.setTop (mkF m 76 #[.val (.int x0), .val (.int x1), .val (.int lo), .val (.int hi), .val (.ref b16), .val (.long (((hi.toInt64) - (lo.toInt64)) + (1 : Int64))), .second, .val (.int (0 : Int32)), .unset] [])) _
        refine st33 _ ?_
        show Steps p.tables e below (T33.setTop (mkF m 79 #[.val (.int x0), .val (.int x1), .val (.int lo), .val (.int hi), .val (.ref b16), .val (.long (((hi.toInt64) - (lo.toInt64)) + (1 : Int64))), .second, .val (.int (0 : Int32)), .unset] [(.ref b33)])) _
        refine XS.dup X33.here hx rfl (hb hby at_79) rfl rfl ?_
        show Steps p.tables e below (T33.setTop (mkF m 80 #[.val (.int x0), .val (.int x1), .val (.int lo), .val (.int hi), .val (.ref b16), .val (.long (((hi.toInt64) - (lo.toInt64)) + (1 : Int64))), .second, .val (.int (0 : Int32)), .unset] [(.ref b33), (.ref b33)])) _
        refine XS.iloadN X33.here hx rfl (hb hby at_80) rfl ?_
        show Steps p.tables e below (T33.setTop (mkF m 81 #[.val (.int x0), .val (.int x1), .val (.int lo), .val (.int hi), .val (.ref b16), .val (.long (((hi.toInt64) - (lo.toInt64)) + (1 : Int64))), .second, .val (.int (0 : Int32)), .unset] [(.int lo), (.ref b33), (.ref b33)])) _
        refine XS.iloadN X33.here hx rfl (hb hby at_81) rfl ?_
        show Steps p.tables e below (T33.setTop (mkF m 82 #[.val (.int x0), .val (.int x1), .val (.int lo), .val (.int hi), .val (.ref b16), .val (.long (((hi.toInt64) - (lo.toInt64)) + (1 : Int64))), .second, .val (.int (0 : Int32)), .unset] [(.int lo), (.int lo), (.ref b33), (.ref b33)])) _
        refine XS.iconst X33.here hx rfl (hb hby at_82) ?_
        show Steps p.tables e below (T33.setTop (mkF m 83 #[.val (.int x0), .val (.int x1), .val (.int lo), .val (.int hi), .val (.ref b16), .val (.long (((hi.toInt64) - (lo.toInt64)) + (1 : Int64))), .second, .val (.int (0 : Int32)), .unset] [(.int (1 : Int32)), (.int lo), (.int lo), (.ref b33), (.ref b33)])) _
        refine XS.iadd X33.here hx rfl (hb hby at_83) rfl ?_
        show Steps p.tables e below (T33.setTop (mkF m 84 #[.val (.int x0), .val (.int x1), .val (.int lo), .val (.int hi), .val (.ref b16), .val (.long (((hi.toInt64) - (lo.toInt64)) + (1 : Int64))), .second, .val (.int (0 : Int32)), .unset] [(.int (lo + (1 : Int32))), (.int lo), (.ref b33), (.ref b33)])) _
        refine st34.trans ?_
        show Steps p.tables e below (T34.setTop (mkF m 87 #[.val (.int x0), .val (.int x1), .val (.int lo), .val (.int hi), .val (.ref b16), .val (.long (((hi.toInt64) - (lo.toInt64)) + (1 : Int64))), .second, .val (.int (0 : Int32)), .unset] [(.ref b33)])) _
        refine XS.astore X34.here hx rfl (hb hby at_87) rfl rfl (l' := #[.val (.int x0), .val (.int x1), .val (.int lo), .val (.int hi), .val (.ref b16), .val (.long (((hi.toInt64) - (lo.toInt64)) + (1 : Int64))), .second, .val (.int (0 : Int32)), .val (.ref b33)]) rfl ?_
        show Steps p.tables e below (T34.setTop (mkF m 89 #[.val (.int x0), .val (.int x1), .val (.int lo), .val (.int hi), .val (.ref b16), .val (.long (((hi.toInt64) - (lo.toInt64)) + (1 : Int64))), .second, .val (.int (0 : Int32)), .val (.ref b33)] [])) _
        refine XS.aload X34.here hx rfl (hb hby at_89) rfl rfl ?_
        show Steps p.tables e below (T34.setTop (mkF m 91 #[.val (.int x0), .val (.int x1), .val (.int lo), .val (.int hi), .val (.ref b16), .val (.long (((hi.toInt64) - (lo.toInt64)) + (1 : Int64))), .second, .val (.int (0 : Int32)), .val (.ref b33)] [(.ref b33)])) _
        refine st35.trans ?_
        show Steps p.tables e below (T35.setTop (mkF m 94 #[.val (.int x0), .val (.int x1), .val (.int lo), .val (.int hi), .val (.ref b16), .val (.long (((hi.toInt64) - (lo.toInt64)) + (1 : Int64))), .second, .val (.int (0 : Int32)), .val (.ref b33)] [(.int (0 : Int32))])) _
        refine XS.ifYes X35.here hx rfl (pc0 := 94) (pc' := 99) rfl (hb hby at_94) rfl ((if0 _ _).trans (teq (by decide : (0 : Int32) = (0 : Int32))).1) (by decide) (by decide) ?_
        show Steps p.tables e below (T35.setTop (mkF m 99 #[.val (.int x0), .val (.int x1), .val (.int lo), .val (.int hi), .val (.ref b16), .val (.long (((hi.toInt64) - (lo.toInt64)) + (1 : Int64))), .second, .val (.int (0 : Int32)), .val (.ref b33)] [])) _
        refine XS.iconst X35.here hx rfl (hb hby at_99) ?_
        show Steps p.tables e below (T35.setTop (mkF m 100 #[.val (.int x0), .val (.int x1), .val (.int lo), .val (.int hi), .val (.ref b16), .val (.long (((hi.toInt64) - (lo.toInt64)) + (1 : Int64))), .second, .val (.int (0 : Int32)), .val (.ref b33)] [(.int (1 : Int32))])) _
        exact retN X35 hx (t := .boolean) Bd.returns (by simp) (hb hby at_100) hr
      · show Q_0 Z x0 x1 lo hi h0 n0 _ T35.heap _
        rw [e35q]
        exact ⟨rfl, N35⟩
set_option maxRecDepth 65536 in
set_option maxHeartbeats 40000000 in
theorem comes_1 {Post : Tables → Env → Array Value → State → Outcome → State → Prop} (hpost : ∀ tb e args s v u, (limb_1_1.after args s (.returned v) u = true ∧ limb_1_2.after args s (.returned v) u = true ∧ True) → FrameEnd s (.returned v) u (Jvm.fieldLocs frame_1_writes args s ++ Jvm.arrayLocs frame_1_arrays args s ++ Jvm.staticLocs frame_1_statics s) 16 128 → Post tb e args s (.returned v) u) :
    ArmFor flags0 classFile x code maxLocals ret World_1 tables_1 room_1 Calls_1 rest_1 Pre_1 Post := by
  intro l hfl _ _ p e ha hc hk s m args below hf hA hF happ hP
  obtain ⟨hcalls, hrest, hpre⟩ := hP
  obtain ⟨-, -, -, hnamed, -, -, -, hat⟩ := (Spec.applies_iff hf).mp happ
  obtain ⟨hg, hn⟩ := and_e (Cond.before_iff.mp (show (Jvm.Cond.and given_1 narrow_1).before args s = true from hpre))
  obtain ⟨g36, g37⟩ := and_e hg
  obtain ⟨g38, g39⟩ := and_e g37
  obtain ⟨w0, w1, rfl⟩ : ∃ w0 w1 : Value, args = #[w0, w1] := by
    have hs : args.size = 2 := by simpa [Cond.value, given_1] using g36
    obtain ⟨L⟩ := args
    match L, hs with
    | [w0, w1], _ => exact ⟨w0, w1, rfl⟩
  have hw := fun d (hd : d ∈ tables_1) => atoms_spec (ws := Jvm.Cond.code x code maxLocals ret :: tables_1) hat d (List.mem_cons_of_mem _ hd)
  have hfit : Fit s := fun {y c} hc i hi => by
    obtain ⟨ha, rfl⟩ := Array.getElem?_eq_some_iff.mp hc
    have q := List.all_eq_true.mp ((Array.all_eq_true_iff_forall_mem.mp hF) _ (Array.getElem_mem ha)) i (List.mem_range.mpr hi)
    simpa [Array.getElem?_eq_getElem hi] using q
  obtain ⟨x0, ei0⟩ := is_v g38
  obtain rfl : w0 = (.int x0) := Option.some.inj ei0
  obtain ⟨x1, ei1⟩ := is_v g39
  obtain rfl : w1 = (.int x1) := Option.some.inj ei1
  obtain ⟨n, o, h1, h2, h3, _, L, rfl, ⟨rfl, N⟩, hq⟩ := rm_0 l s _ hw tables_1 x0 x1 _ _ s.heap s.heap.size (Nat.le_refl _) rfl rfl (own_mm x0 x1) p e ha hc hk s m _ below hf ((Spec.applies_iff_loose hf).mp happ).1 ⟨rfl, State.Warmed39.refl s, rfl⟩ trivial
  refine ⟨n, _, h1, h2, h3, hpost _ _ _ _ _ _ ⟨Cond.after_iff.mpr rfl, Cond.after_iff.mpr (eq_i res_at (Term.int_eval (1)) rfl), trivial⟩ ⟨hq.1, hq.2.1, (hq.2.2.sift fun y hy => Or.inr (N y hy)).mono (by decide) (by decide)⟩⟩
theorem main_1_1 : Claimed_1_1 := comes_1 fun _ _ _ _ _ _ h hF => ⟨h.1, hF⟩
theorem main_1_2 : Claimed_1_2 := comes_1 fun _ _ _ _ _ _ h hF => ⟨h.2.1, hF⟩
end Jvm.Pilot.@@N@@
namespace Jvm.Pilot.@@N@@
open Jvm Jvm.ClassFile Sem Op Lib Jvm.Free Jvm.Stand Jvm.Pilot.@@N@@.Jvm.D
/-! MADE BY PROGRAM (witnessworld.py) out of the Statement's table words and the real class files: 10 classes; the members and pool entries that the words name. The judged class is class 1, her method 1. -/
namespace start1
open Jvm.ClassFile
def u (s : String) : CpInfo := .utf8 (stringToUtf16 s)
/-- a pool by its gaps: so many unusable entries, then the entry; so many at the end -/
def gap : Nat → List CpInfo → List CpInfo
  | 0, r => r
  | n + 1, r => .unusable :: gap n r
def poolList (es : List (Nat × CpInfo)) (last : Nat) : List CpInfo := es.foldr (fun e r => gap e.1 (e.2 :: r)) (gap last [])
def pool (es : List (Nat × CpInfo)) (last : Nat) : Array CpInfo := ⟨poolList es last⟩
def fileOf (pool : Array CpInfo) (this : Nat) (attrs : Array Attribute := #[]) (ms : Array MethodInfo := #[]) (fl : Nat := 33) (sup : Nat := 0) (ifs : Array Nat := #[]) (fds : Array FieldInfo := #[]) : ClassFile where
  minorVersion := 0
  majorVersion := 65
  constantPool := pool
  accessFlags := fl
  thisClass := this
  superClass := sup
  interfaces := ifs
  fields := fds
  methods := ms
  attributes := attrs
def plain (name : String) (sup : Option ClassId) : Class where
  name := name
  kind := .ordinary
  loader := none
  accessFlags := 33
  super := sup
  interfaces := #[]
  cf := none
  fields := #[]
  methods := #[]
  instanceTypes := #[]
  staticTypes := #[]
  resolved := #[]
  callSites := []
  init := .initialized
  statics := none
  mirror := none

def pool0 : Array CpInfo := pool [(5, u "<init>"), (0, u "()V"), (1, .class_ 10), (1, u "java/lang/Object")] 113

def k0c0 : Code := { maxStack := 0, maxLocals := 1, code := object_method_1_code, exceptionTable := #[], attributes := #[] }
def k0m0 : Method := { name := "<init>", desc := "()V", sig := { parameters := [], returnType := none }, accessFlags := 1, code := some k0c0 }
/-- java/lang/Object -/
def k0 : Class := { plain "java/lang/Object" none with
  accessFlags := 33
  interfaces := #[]
  cf := some (fileOf pool0 8 #[] #[{ accessFlags := 1, nameIndex := 5, descriptorIndex := 6, attributes := #[] }] 33 0 #[] #[])
  fields := #[]
  methods := #[k0m0]
  instanceTypes := #[]
  staticTypes := #[]
  resolved := Array.replicate 124 none
  statics := none }

def pool1 : Array CpInfo := pool [(2, .class_ 4), (1, u "java/lang/Object"), (0, u "<init>"), (0, u "()V"), (0, .methodref 8 9), (0, .class_ 10), (0, .nameAndType 11 12), (0, u "java/lang/Math"), (0, u "min"), (0, u "(II)I"), (0, .methodref 8 14), (0, .nameAndType 15 12), (0, u "max"), (0, .class_ 17), (0, u "com/example/notate/notate/schema/NumberRange"), (0, .methodref 16 19), (0, .nameAndType 5 20), (0, u "(II)V"), (0, .methodref 16 22), (0, .nameAndType 23 24), (0, u "isSingle"), (0, u "()Z"), (0, .methodref 16 26), (0, .nameAndType 27 28), (0, u "of"), (0, u "(I)Lcom/example/notate/notate/schema/NumberRange;"), (2, .integer 2147483647), (0, .class_ 33), (0, u "com/example/notate/notate/schema/NumberRangeIsSinglePinLaw"), (2, u "law"), (0, u "(II)Z")] 3

def k1m0 : Method := { name := "<init>", desc := "()V", sig := { parameters := [], returnType := none }, accessFlags := 1, code := none }
def k1c1 : Code := { maxStack := 5, maxLocals := 9, code := code, exceptionTable := #[], attributes := #[] }
def k1m1 : Method := { name := "law", desc := "(II)Z", sig := { parameters := [.int, .int], returnType := some .boolean }, accessFlags := 9, code := some k1c1 }
/-- com/example/notate/notate/schema/NumberRangeIsSinglePinLaw -/
def k1 : Class := { plain "com/example/notate/notate/schema/NumberRangeIsSinglePinLaw" (some 0) with
  accessFlags := 49
  interfaces := #[]
  cf := some (fileOf pool1 32 #[] #[{ accessFlags := 1, nameIndex := 5, descriptorIndex := 6, attributes := #[] }, { accessFlags := 9, nameIndex := 36, descriptorIndex := 37, attributes := #[] }] 49 2 #[] #[])
  fields := #[]
  methods := #[k1m0, k1m1]
  instanceTypes := #[]
  staticTypes := #[]
  resolved := Array.replicate 41 none
  statics := none }

def pool2 : Array CpInfo := pool [(1, .class_ 2), (0, u "java/lang/Math"), (1, .class_ 6), (1, u "java/lang/Object"), (0, u "<init>"), (0, u "()V"), (89, .class_ 100), (1, u "java/lang/Math$RandomNumberGeneratorHolder"), (71, u "negativeZeroFloatBits"), (0, u "J"), (2, u "negativeZeroDoubleBits"), (21, u "max"), (2, u "min"), (43, u "$assertionsDisabled"), (0, u "Z"), (88, u "(II)I"), (2, u "twoToTheDoubleScaleDown"), (0, u "D"), (4, u "twoToTheDoubleScaleUp"), (9, u "E"), (3, u "PI"), (2, u "TAU"), (2, u "DEGREES_TO_RADIANS"), (0, u "RADIANS_TO_DEGREES")] 94

def k2m0 : Method := { name := "<init>", desc := "()V", sig := { parameters := [], returnType := none }, accessFlags := 2, code := none }
def k2c1 : Code := { maxStack := 2, maxLocals := 2, code := jdk_29_method_65_code, exceptionTable := #[], attributes := #[] }
def k2m1 : Method := { name := "max", desc := "(II)I", sig := { parameters := [.int, .int], returnType := some .int }, accessFlags := 9, code := some k2c1 }
def k2c2 : Code := { maxStack := 2, maxLocals := 2, code := jdk_29_method_69_code, exceptionTable := #[], attributes := #[] }
def k2m2 : Method := { name := "min", desc := "(II)I", sig := { parameters := [.int, .int], returnType := some .int }, accessFlags := 9, code := some k2c2 }
/-- java/lang/Math -/
def k2 : Class := { plain "java/lang/Math" (some 0) with
  accessFlags := 49
  interfaces := #[]
  cf := some (fileOf pool2 1 #[.nestMembers #[98]] #[{ accessFlags := 2, nameIndex := 7, descriptorIndex := 8, attributes := #[] }, { accessFlags := 9, nameIndex := 198, descriptorIndex := 335, attributes := #[] }, { accessFlags := 9, nameIndex := 201, descriptorIndex := 335, attributes := #[] }] 49 4 #[] #[{ accessFlags := 25, nameIndex := 354, descriptorIndex := 339, attributes := #[] }, { accessFlags := 25, nameIndex := 358, descriptorIndex := 339, attributes := #[] }, { accessFlags := 25, nameIndex := 361, descriptorIndex := 339, attributes := #[] }, { accessFlags := 26, nameIndex := 364, descriptorIndex := 339, attributes := #[] }, { accessFlags := 26, nameIndex := 365, descriptorIndex := 339, attributes := #[] }, { accessFlags := 26, nameIndex := 172, descriptorIndex := 173, attributes := #[] }, { accessFlags := 26, nameIndex := 176, descriptorIndex := 173, attributes := #[] }, { accessFlags := 8, nameIndex := 344, descriptorIndex := 339, attributes := #[] }, { accessFlags := 8, nameIndex := 338, descriptorIndex := 339, attributes := #[] }, { accessFlags := 4120, nameIndex := 245, descriptorIndex := 246, attributes := #[] }])
  fields := #[{ name := "E", type := .double, accessFlags := 25, slot := 0, constantValue := 0 }, { name := "PI", type := .double, accessFlags := 25, slot := 1, constantValue := 0 }, { name := "TAU", type := .double, accessFlags := 25, slot := 2, constantValue := 0 }, { name := "DEGREES_TO_RADIANS", type := .double, accessFlags := 26, slot := 3, constantValue := 0 }, { name := "RADIANS_TO_DEGREES", type := .double, accessFlags := 26, slot := 4, constantValue := 0 }, { name := "negativeZeroFloatBits", type := .long, accessFlags := 26, slot := 5, constantValue := 0 }, { name := "negativeZeroDoubleBits", type := .long, accessFlags := 26, slot := 6, constantValue := 0 }, { name := "twoToTheDoubleScaleUp", type := .double, accessFlags := 8, slot := 7, constantValue := 0 }, { name := "twoToTheDoubleScaleDown", type := .double, accessFlags := 8, slot := 8, constantValue := 0 }, { name := "$assertionsDisabled", type := .boolean, accessFlags := 4120, slot := 9, constantValue := 0 }]
  methods := #[k2m0, k2m1, k2m2]
  instanceTypes := #[]
  staticTypes := #[.double, .double, .double, .double, .double, .long, .long, .double, .double, .boolean]
  resolved := Array.replicate 460 none
  statics := none }

def pool3 : Array CpInfo := pool [(1, .methodref 2 3), (0, .class_ 4), (0, .nameAndType 5 6), (0, u "java/lang/Object"), (0, u "<init>"), (0, u "()V"), (9, .fieldref 17 18), (0, .class_ 19), (0, .nameAndType 20 21), (0, u "com/example/notate/notate/schema/NumberRange"), (0, u "first"), (0, u "I"), (0, .fieldref 17 23), (0, .nameAndType 24 21), (0, u "last"), (0, .methodref 17 26), (0, .nameAndType 5 27), (0, u "(II)V"), (3, u "of"), (0, u "(I)Lcom/example/notate/notate/schema/NumberRange;"), (1, u "isSingle"), (0, u "()Z")] 17

def k3c0 : Code := { maxStack := 4, maxLocals := 3, code := prog_55_method_1_code, exceptionTable := #[], attributes := #[] }
def k3m0 : Method := { name := "<init>", desc := "(II)V", sig := { parameters := [.int, .int], returnType := none }, accessFlags := 1, code := some k3c0 }
def k3c1 : Code := { maxStack := 4, maxLocals := 1, code := prog_55_method_2_code, exceptionTable := #[], attributes := #[] }
def k3m1 : Method := { name := "of", desc := "(I)Lcom/example/notate/notate/schema/NumberRange;", sig := { parameters := [.int], returnType := some (.object "com/example/notate/notate/schema/NumberRange") }, accessFlags := 9, code := some k3c1 }
def k3c2 : Code := { maxStack := 2, maxLocals := 1, code := prog_55_method_5_code, exceptionTable := #[], attributes := #[] }
def k3m2 : Method := { name := "isSingle", desc := "()Z", sig := { parameters := [], returnType := some .boolean }, accessFlags := 1, code := some k3c2 }
/-- com/example/notate/notate/schema/NumberRange -/
def k3 : Class := { plain "com/example/notate/notate/schema/NumberRange" (some 0) with
  accessFlags := 49
  interfaces := #[]
  cf := some (fileOf pool3 17 #[] #[{ accessFlags := 1, nameIndex := 5, descriptorIndex := 27, attributes := #[] }, { accessFlags := 9, nameIndex := 31, descriptorIndex := 32, attributes := #[] }, { accessFlags := 1, nameIndex := 34, descriptorIndex := 35, attributes := #[] }] 49 2 #[] #[{ accessFlags := 18, nameIndex := 20, descriptorIndex := 21, attributes := #[] }, { accessFlags := 18, nameIndex := 24, descriptorIndex := 21, attributes := #[] }])
  fields := #[{ name := "first", type := .int, accessFlags := 18, slot := 0, constantValue := 0 }, { name := "last", type := .int, accessFlags := 18, slot := 1, constantValue := 0 }]
  methods := #[k3m0, k3m1, k3m2]
  instanceTypes := #[.int, .int]
  staticTypes := #[]
  resolved := Array.replicate 53 none
  statics := none }

def pool4 : Array CpInfo := pool [(1, u "java/lang/Cloneable"), (0, .class_ 1), (0, u "java/lang/Object"), (0, .class_ 3)] 3

/-- java/lang/Cloneable -/
def k4 : Class := { plain "java/lang/Cloneable" (some 0) with
  accessFlags := 1537
  interfaces := #[]
  cf := some (fileOf pool4 2 #[] #[] 1537 4 #[] #[])
  fields := #[]
  methods := #[]
  instanceTypes := #[]
  staticTypes := #[]
  resolved := Array.replicate 8 none
  statics := none }

def pool5 : Array CpInfo := pool [(1, u "java/io/Serializable"), (0, .class_ 1), (0, u "java/lang/Object"), (0, .class_ 3)] 3

/-- java/io/Serializable -/
def k5 : Class := { plain "java/io/Serializable" (some 0) with
  accessFlags := 1537
  interfaces := #[]
  cf := some (fileOf pool5 2 #[] #[] 1537 4 #[] #[])
  fields := #[]
  methods := #[]
  instanceTypes := #[]
  staticTypes := #[]
  resolved := Array.replicate 8 none
  statics := none }

/-- the primitive byte -/
def k6 : Class := { plain "byte" none with kind := .primitive 'B', accessFlags := 0x411 }
/-- [B -/
def k7 : Class := { plain "[B" (some 0) with kind := .array 6 .byte, interfaces := #[4, 5], accessFlags := 1041 }

/-- the primitive int -/
def k8 : Class := { plain "int" none with kind := .primitive 'I', accessFlags := 0x411 }
/-- [I -/
def k9 : Class := { plain "[I" (some 0) with kind := .array 8 .int, interfaces := #[4, 5], accessFlags := 1041 }

def heap : Heap := #[]
def classes : Array Class := #[k0, k1, k2, k3, k4, k5, k6, k7, k8, k9]
def interned : List (Array UInt16 × Addr) := []
def slotsUsed : Nat := 0
def theMethod : MethodId := ⟨1, 1⟩
def args0 : Array Value := #[.int 5, .int 5]
def aboutOver (below : List Frame) : State where
  vm := { classes := classes, interned := interned.toArray }
  heap := heap
  slotsUsed := slotsUsed
  threads := #[{ frames := .invoking theMethod args0 :: below }]
def below0 : List Frame := [.native { method := ⟨0, 0⟩, args := #[] }]
def about1 : State := aboutOver below0
def p0 : Program := .bare "" "" ""
def e0 : Env := launch0.env 0 0 0
theorem w_frames : about1.frames = Frame.invoking theMethod args0 :: below0 := rfl
set_option maxRecDepth 65536 in
theorem w_args : argsFit about1.vm theMethod args0 = true := by decide +kernel
set_option maxRecDepth 65536 in
theorem w_heap : heapFits about1 = true := by decide +kernel
set_option maxRecDepth 65536 in
theorem w_runnable : about1.curStatus? = some .runnable := by decide +kernel
set_option maxRecDepth 65536 in
theorem w_alone : about1.alone = true := by decide +kernel
set_option maxRecDepth 65536 in
theorem w_named : about1.methodNamed? x = some theMethod := by decide +kernel
set_option maxRecDepth 65536 in
theorem w_hears : about1.hears theMethod below0 = true := by decide +kernel
set_option maxRecDepth 65536 in
theorem w_ripe : about1.ripe theMethod args0 below0 = true := by decide +kernel
theorem w_running : about1.status = .running := rfl
set_option maxRecDepth 65536 in
theorem w_room : about1.hasRoom e0.platform room_1 = true :=
  launch0.hasRoom_least _ room_1 (by decide +kernel) (by decide +kernel) (by decide +kernel) (by decide +kernel) (by decide +kernel) (by decide +kernel)
theorem allAtoms_all (ts : List Jvm.Cond) (a : Array Jvm.Value) (st : Jvm.State) : (allAtoms ts).before a st = ts.all (fun c => c.before a st) := by
  induction ts with
  | nil => rfl
  | cons c t ih =>
    show (Jvm.Cond.and c (allAtoms t)).before a st = _
    rw [Jvm.Cond.before_and, ih, List.all_cons]
def words1 : List Jvm.Cond := Jvm.Cond.code x code maxLocals ret :: tables_1
/-- a 'code' word, met by the world's own term for the bytes: nothing is compared byte by byte -/
theorem code_word {y : MethodName} {bytes : ByteArray} {mx : Nat} {rt : Option FieldType} {a : Array Value} {s : State} {m : MethodId} {meth : Method} {c : Code} (h1 : s.methodNamed? y = some m) (h2 : s.vm.method? m = some meth) (h3 : meth.code = some c) (h4 : c.code = bytes)
    (h5 : (c.maxLocals == mx && c.exceptionTable.isEmpty && decide (c.maxStack ≤ mostOperands) && decide (meth.sig.returnType = rt) && !meth.locks && decide (parseMethodDescriptor y.desc = some meth.sig)) = true) : (Jvm.Cond.code y bytes mx rt).before a s = true := by
  simp only [Bool.and_eq_true, beq_iff_eq, Bool.not_eq_true', decide_eq_true_eq] at h5
  obtain ⟨⟨⟨⟨⟨g1, g2⟩, g3⟩, g4⟩, g5⟩, g6⟩ := h5
  simp [Cond.before, Cond.holds, Cond.value, h1, h2, h3, h4, g1, g2, g3, g4, g5, g6]
def isCode : Jvm.Cond → Bool
  | .code _ _ _ _ => true
  | _ => false
theorem all_split {L : List Jvm.Cond} {P : Jvm.Cond → Bool} (h1 : L.all (fun c => isCode c || P c) = true) (h2 : ∀ c ∈ L.filter isCode, P c = true) : L.all P = true := by
  refine List.all_eq_true.mpr fun c hc => ?_
  have h := List.all_eq_true.mp h1 c hc
  rcases Bool.eq_false_or_eq_true (isCode c) with hi | hi
  · exact h2 c (List.mem_filter.mpr ⟨hc, hi⟩)
  · simpa [hi] using h
set_option maxRecDepth 65536 in
theorem w_c0 : (Jvm.Cond.code x code maxLocals ret).before args0 about1 = true := code_word (m := ⟨1, 1⟩) (meth := k1m1) (c := k1c1) (by decide +kernel) rfl rfl rfl (by decide +kernel)
set_option maxRecDepth 65536 in
theorem w_c1 : (Jvm.Cond.code ({ cls := "java/lang/Math", name := "min", desc := "(II)I" } : Jvm.MethodName) jdk_29_method_69_code (2 : Nat) (Option.some Jvm.ClassFile.FieldType.int)).before args0 about1 = true := code_word (m := ⟨2, 2⟩) (meth := k2m2) (c := k2c2) (by decide +kernel) rfl rfl rfl (by decide +kernel)
set_option maxRecDepth 65536 in
theorem w_c2 : (Jvm.Cond.code ({ cls := "java/lang/Math", name := "max", desc := "(II)I" } : Jvm.MethodName) jdk_29_method_65_code (2 : Nat) (Option.some Jvm.ClassFile.FieldType.int)).before args0 about1 = true := code_word (m := ⟨2, 1⟩) (meth := k2m1) (c := k2c1) (by decide +kernel) rfl rfl rfl (by decide +kernel)
set_option maxRecDepth 65536 in
theorem w_c3 : (Jvm.Cond.code ({ cls := "com/example/notate/notate/schema/NumberRange", name := "<init>", desc := "(II)V" } : Jvm.MethodName) prog_55_method_1_code (3 : Nat) (Option.none : Option Jvm.ClassFile.FieldType)).before args0 about1 = true := code_word (m := ⟨3, 0⟩) (meth := k3m0) (c := k3c0) (by decide +kernel) rfl rfl rfl (by decide +kernel)
set_option maxRecDepth 65536 in
theorem w_c4 : (Jvm.Cond.code ({ cls := "java/lang/Object", name := "<init>", desc := "()V" } : Jvm.MethodName) object_method_1_code (1 : Nat) (Option.none : Option Jvm.ClassFile.FieldType)).before args0 about1 = true := code_word (m := ⟨0, 0⟩) (meth := k0m0) (c := k0c0) (by decide +kernel) rfl rfl rfl (by decide +kernel)
set_option maxRecDepth 65536 in
theorem w_c5 : (Jvm.Cond.code ({ cls := "com/example/notate/notate/schema/NumberRange", name := "isSingle", desc := "()Z" } : Jvm.MethodName) prog_55_method_5_code (1 : Nat) (Option.some Jvm.ClassFile.FieldType.boolean)).before args0 about1 = true := code_word (m := ⟨3, 2⟩) (meth := k3m2) (c := k3c2) (by decide +kernel) rfl rfl rfl (by decide +kernel)
set_option maxRecDepth 65536 in
theorem w_c6 : (Jvm.Cond.code ({ cls := "com/example/notate/notate/schema/NumberRange", name := "of", desc := "(I)Lcom/example/notate/notate/schema/NumberRange;" } : Jvm.MethodName) prog_55_method_2_code (1 : Nat) (Option.some (Jvm.ClassFile.FieldType.object "com/example/notate/notate/schema/NumberRange"))).before args0 about1 = true := code_word (m := ⟨3, 1⟩) (meth := k3m1) (c := k3c1) (by decide +kernel) rfl rfl rfl (by decide +kernel)
def codes1 : List Jvm.Cond := [Jvm.Cond.code x code maxLocals ret, Jvm.Cond.code ({ cls := "java/lang/Math", name := "min", desc := "(II)I" } : Jvm.MethodName) jdk_29_method_69_code (2 : Nat) (Option.some Jvm.ClassFile.FieldType.int), Jvm.Cond.code ({ cls := "java/lang/Math", name := "max", desc := "(II)I" } : Jvm.MethodName) jdk_29_method_65_code (2 : Nat) (Option.some Jvm.ClassFile.FieldType.int), Jvm.Cond.code ({ cls := "com/example/notate/notate/schema/NumberRange", name := "<init>", desc := "(II)V" } : Jvm.MethodName) prog_55_method_1_code (3 : Nat) (Option.none : Option Jvm.ClassFile.FieldType), Jvm.Cond.code ({ cls := "java/lang/Object", name := "<init>", desc := "()V" } : Jvm.MethodName) object_method_1_code (1 : Nat) (Option.none : Option Jvm.ClassFile.FieldType), Jvm.Cond.code ({ cls := "com/example/notate/notate/schema/NumberRange", name := "isSingle", desc := "()Z" } : Jvm.MethodName) prog_55_method_5_code (1 : Nat) (Option.some Jvm.ClassFile.FieldType.boolean), Jvm.Cond.code ({ cls := "com/example/notate/notate/schema/NumberRange", name := "of", desc := "(I)Lcom/example/notate/notate/schema/NumberRange;" } : Jvm.MethodName) prog_55_method_2_code (1 : Nat) (Option.some (Jvm.ClassFile.FieldType.object "com/example/notate/notate/schema/NumberRange"))]
set_option maxRecDepth 65536 in
theorem codes_eq : words1.filter isCode = codes1 := rfl
theorem w_codes : ∀ c ∈ words1.filter isCode, c.before args0 about1 = true := by
  rw [codes_eq]
  intro c hc
  simp only [codes1, List.mem_cons, List.not_mem_nil, or_false] at hc
  rcases hc with rfl | rfl | rfl | rfl | rfl | rfl | rfl
  · exact w_c0
  · exact w_c1
  · exact w_c2
  · exact w_c3
  · exact w_c4
  · exact w_c5
  · exact w_c6
set_option maxRecDepth 65536 in
theorem w_t1 : (words1.take 24).all (fun c => isCode c || c.before args0 about1) = true := by decide +kernel
set_option maxRecDepth 65536 in
theorem w_t2 : (words1.drop 24).all (fun c => isCode c || c.before args0 about1) = true := by decide +kernel
theorem w_tables : (allAtoms (Jvm.Cond.code x code maxLocals ret :: tables_1)).before args0 about1 = true := by
  rw [allAtoms_all]
  show words1.all (fun c => c.before args0 about1) = true
  refine all_split ?_ w_codes
  rw [← List.take_append_drop 24 words1, List.all_append, w_t1, w_t2]
  rfl
set_option maxRecDepth 65536 in
theorem w_case : (Jvm.Cond.and given_1 narrow_1).before args0 about1 = true := by decide +kernel
theorem w_applies : (headSpec (Jvm.Cond.code x code maxLocals ret :: tables_1) room_1).applies x e0.platform about1 = true :=
  (Spec.applies_iff w_frames).mpr ⟨w_running, w_runnable, w_alone, w_named, w_hears, w_ripe, w_room, w_tables⟩
theorem atStart : AtStart classFile x code maxLocals ret World_1 tables_1 room_1 Calls_1 rest_1 Pre_1 launch0 p0 e0 about1 theMethod args0 below0 :=
  ⟨lists_1, trivial, launch0.admits_env _ _ _, launch0.least_env, fairChoices_fair.cas, fairChoices_fair.clock, w_frames, w_args, w_heap, w_applies, trivial, trivial, w_case⟩
end start1
theorem witness_1 : WitnessClaimed_1 := ⟨start1.p0, start1.e0, start1.about1, start1.theMethod, start1.args0, start1.below0, start1.atStart⟩
end Jvm.Pilot.@@N@@
