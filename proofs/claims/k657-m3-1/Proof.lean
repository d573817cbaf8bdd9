import JvmDerived
import JvmDerived.Pilot.@@N@@Statement
import JvmDerived.Pilot.@@N@@Code
set_option linter.unusedVariables false
set_option linter.unusedSimpArgs false
namespace Jvm.RoadKit
open Sem ClassFile Op Lib Jvm.Stand Jvm.Free Jvm.LawKit
section New
variable {p : Program} {l : Launch} {e : Env} {R : Room} {s : State} {m : MethodId} {args : Array Value} {below : List Frame} {meth : Method} {c : Code} {T : State} {locs : List Loc} {cells slots : Nat}
theorem retI (X : Stand p l e R s m args below meth c T locs cells slots) (hx : p.tables.exec = Jvm.exec) {pc : Nat} {Ls : Array Slot} {z : Int32} {rest : List Value} (hret : meth.sig.returnType = some .int) (hd : decode c.code pc = .ok (.ireturn, 1)) {fs : List Frame}
    (hl : ∀ (f : JFrame) (acts : List Action), f.method = m → f.locked = none → f.entered = [] → (doReturn e (T.setTop f) acts (some (.int z))).1 = T.setFrames fs) : Steps p.tables e below (T.setTop (mkF m pc Ls (.int z :: rest))) (T.setFrames fs) := by
  have hm' : T.vm.method? m = some meth := X.method'
  have hn : narrow .int (.int z) = .int z := rfl
  show Steps p.tables e below (T.setTop { method := m, pc := pc, locals := Ls, stack := _ :: rest, locked := none }) _
  jvm_step X.here [X.here.top, hx, hd, hm', hret, hn]
  first | (intro acts; rw [hl _ acts rfl rfl rfl]) | rw [hl _ _ rfl rfl rfl]
  exact Steps.refl _
end New
variable {Z : State} {h h' : Heap} {C n d : String} {v w : Value} {ws : List Addr}
theorem own_staKeep (F : Sta Z h C n d v) (K : Keep h h' ws) (q : ∀ x ∈ ws, ∀ c : Cell, h[x]? = some c → c.vm.isStatics = false) : Sta Z h' C n d v := by
  obtain ⟨cf, i, k, f, st, cell, h1, h2, h3, h4, h5, h6, h7⟩ := F
  refine ⟨cf, i, k, f, st, cell, h1, h2, h3, h4, K.2.1 _ _ h5 (fun r => ?_), h6, h7⟩
  rw [q _ r _ h5] at h6; cases h6
theorem own_staNew {n0 : Nat} (F : Sta Z h C n d v) (K : Keep h h' ws) (hn : ∀ x ∈ ws, n0 ≤ x) (hs : ∀ (x : Addr) (c : Cell), h[x]? = some c → c.vm.isStatics = true → x < n0) : Sta Z h' C n d v := by
  obtain ⟨cf, i, k, f, st, cell, h1, h2, h3, h4, h5, h6, h7⟩ := F
  exact ⟨cf, i, k, f, st, cell, h1, h2, h3, h4, K.2.1 _ _ h5 (fun r => absurd (hs _ _ h5 h6) (Nat.not_lt.mpr (hn _ r))), h6, h7⟩
theorem own_fldI {args : Array Value} {s : State} {t : Term} {a : Addr} {C n d : String} {k : Int32} (ht : t.eval args s none [] s = some (.ref a)) (h : (Cond.eq (.field t C n d) (.int k)).value args s none s [] = some true) : Fld s s.heap a C n d (.int k) := Fld.start ((fld_at ht).symm.trans (eqv_i rfl h))
theorem own_fldR {args : Array Value} {s : State} {t u : Term} {a b : Addr} {C n d : String} (ht : t.eval args s none [] s = some (.ref a)) (hu : u.eval args s none [] s = some (.ref b)) (h : (Cond.eq (.field t C n d) u).value args s none s [] = some true) : Fld s s.heap a C n d (.ref b) := by
  obtain ⟨x, y, ex, ey, kx, ky⟩ := cmp_v (Or.inl h)
  have e1 : s.fieldOf? a C n d = some x := by rw [← fld_at ht]; exact ex
  cases hu.symm.trans ey
  have q : x = .ref b := by
    cases x <;> simp [Cond.value, ex, hu] at h ⊢
    exact h
  exact Fld.start (by rw [e1, q])
theorem own_staL {args : Array Value} {s : State} {C n d : String} {k : Int64} (h : (Cond.eq (.static C n d) (.long k)).value args s none s [] = some true) : (Term.static C n d).eval args s none [] s = some (.long k) := eqv_l rfl h
end Jvm.RoadKit
namespace Jvm.Pilot.@@N@@
open Jvm Jvm.ClassFile Sem Op Lib Jvm.Free Jvm.Stand Jvm.LawKit Jvm.RoadKit Bundle Jvm.Pilot.@@N@@.Jvm.D
theorem pd___I : parseMethodDescriptor "()I" = some ⟨[], some .int⟩ := by decide +kernel
theorem d2_0 : decode jdk_37_method_2_code 0 = .ok (.aload_n 0, 1) := by decide +kernel
theorem d2_1 : decode jdk_37_method_2_code 1 = .ok (.getfield 7, 3) := by decide +kernel
theorem d2_4 : decode jdk_37_method_2_code 4 = .ok (.ireturn, 1) := by decide +kernel
theorem ef_2 (m : MethodId) (x0 : Addr) : entryFrame m #[(.ref x0)] 1 = mkF m 0 #[.val (.ref x0)] [] := by first | (simp [entryFrame, mkF, argsToLocals, Value.category]; done) | rfl
theorem pn_java_lang_Enum : plainName "java/lang/Enum" = true := by first | (simp [plainName, overriddenIn]; done) | decide +kernel
def Q_2 (Z : State) (a1 : Addr) (od : Int32) (h0 : Heap) (n0 : Nat) (v : Option Value) (h : Heap) (L : List Loc) : Prop := v = some (.int od) ∧ Fr n0 L ∧ h = h0
set_option maxRecDepth 65536 in
set_option maxHeartbeats 40000000 in
theorem rm_2 (l : Launch) (Z : State) (a0 : Array Value) (hw : ∀ d ∈ tables_1, d.before a0 Z = true) (ws : List Jvm.Cond) (a1 : Addr) (od : Int32) (h0 : Heap) (n0 : Nat) (Z0 : n0 ≤ h0.size) (F_o : Fld Z h0 a1 "java/lang/Enum" "ordinal" "I" (.int od)) :
    MetFree l (⟨"java/lang/Enum", "ordinal", "()I"⟩ : MethodName) (head1 (Jvm.Cond.code (⟨"java/lang/Enum", "ordinal", "()I"⟩ : MethodName) jdk_37_method_2_code 1 (some .int) :: ws) ({ frames := 0, cells := 0, slots := 0, locals := 0 } : Room)) (fun a U => a = #[(.ref a1)] ∧ Z.Warmed39 U.vm ∧ U.heap = h0) (fun _ _ _ _ _ => True) (fun _ U o U' => ∃ v L, o = .returned v ∧ Q_2 Z a1 od h0 n0 v U'.heap L ∧ FrameEnd U o U' L ({ frames := 0, cells := 0, slots := 0, locals := 0 } : Room).cells ({ frames := 0, cells := 0, slots := 0, locals := 0 } : Room).slots) := by
  refine MetFree.of_bodySF (plainFor_of_name pn_java_lang_Enum) hisR ?_
  intro p e s m args below meth c s₁ Bd hml0 hP hK
  obtain ⟨rfl, hZ, hh⟩ := hP
  have hx := Bd.exec
  have hby := Bd.bytes
  have hml : c.maxLocals = 1 := hml0
  have hown : s.vm.findClass "java/lang/Enum" = some m.cls := findClass_of_methodNamed Bd.named
  have hnm := (name_of_methodNamed Bd.named Bd.method).1
  have X0 : Stand p l e ({ frames := 0, cells := 0, slots := 0, locals := 0 } : Room) s m #[(.ref a1)] below meth c s₁ [] 0 0 := Stand.of_body Bd
  have e0 : s₁.heap = h0 := by rw [← hh, Bd.state]; rfl
  have N0 := Fr.nil n0
  have pw0 : ∀ t, Steps p.tables e below (s₁.setTop (mkF m 0 #[.val (.ref a1)] [])) t → Steps p.tables e below (s₁.setTop (entryFrame m #[(.ref a1)] 1)) t := fun t k => castTop (ef_2 m a1) k
  have K0 : Keep h0 h0 [] := Keep.refl h0 []
  obtain ⟨T1, X1, e1, st1⟩ := getF X0 hx hZ hown (host := "") (Or.inl (hw _ (List.mem_of_getElem? (i := 16) rfl))) Via.refl e0 F_o (g := (mkF m 1 #[.val (.ref a1)] [(.ref a1)])) rfl rfl (hb hby d2_1)
  obtain ⟨fs, hr, hrun, hended, hW, hsame⟩ := X1.leave (v := some (.int od)) (fun h => by rw [Bd.returns] at h; cases h)
  refine ⟨_, _, pw0 _ ?_, hrun, hended, _, _, rfl, ?_, ⟨_, rfl⟩, hW, hsame.mono (by decide) (by decide)⟩
  · skip
    refine XS.aloadN X0.here hx rfl (hb hby d2_0) rfl rfl ?_
    show Steps p.tables e below (s₁.setTop (mkF m 1 #[.val (.ref a1)] [(.ref a1)])) _
    refine st1 _ ?_
    show Steps p.tables e below (T1.setTop (mkF m 4 #[.val (.ref a1)] [(.int od)])) _
    exact retI X1 hx Bd.returns (hb hby d2_4) hr
  · show Q_2 Z a1 od h0 n0 _ T1.heap _
    rw [e1]
    exact ⟨rfl, N0, rfl⟩
theorem d1_0 : decode prog_17_method_8_code 0 = .ok (.aload_n 0, 1) := by decide +kernel
theorem d1_1 : decode prog_17_method_8_code 1 = .ok (.invokevirtual 74, 3) := by decide +kernel
theorem d1_4 : decode prog_17_method_8_code 4 = .ok (.tableswitch 36 0 4 #[46, 46, 51, 51, 51], 36) := by decide +kernel
theorem d1_50 : decode prog_17_method_8_code 50 = .ok (.bipush 80, 2) := by decide +kernel
theorem d1_52 : decode prog_17_method_8_code 52 = .ok (.goto 5, 3) := by decide +kernel
theorem d1_57 : decode prog_17_method_8_code 57 = .ok (.ireturn, 1) := by decide +kernel
theorem ef_1_0 (m : MethodId) (x0 : Addr) : entryFrame m #[(.ref x0)] 1 = mkF m 0 #[.val (.ref x0)] [] := by first | (simp [entryFrame, mkF, argsToLocals, Value.category]; done) | rfl
theorem pn_com_example_brisk_tune_brisktune_music_Model : plainName "com/example/brisk_tune/brisktune/music/Model" = true := by first | (simp [plainName, overriddenIn]; done) | decide +kernel
def Q_1_0 (Z : State) (a1 : Addr) (h0 : Heap) (n0 : Nat) (v : Option Value) (h : Heap) (L : List Loc) : Prop := v = some (.int (80 : Int32)) ∧ Fr n0 L ∧ h = h0
set_option maxRecDepth 65536 in
set_option maxHeartbeats 40000000 in
theorem rm_1_0 (l : Launch) (Z : State) (a0 : Array Value) (hw : ∀ d ∈ tables_1, d.before a0 Z = true) (ws : List Jvm.Cond) (a1 : Addr) (h0 : Heap) (n0 : Nat) (Z0 : n0 ≤ h0.size) (E_a : Exa Z h0 a1 "com/example/brisk_tune/brisktune/music/Model") (F_o : Fld Z h0 a1 "java/lang/Enum" "ordinal" "I" (.int (0 : Int32))) :
    MetFree l (⟨"com/example/brisk_tune/brisktune/music/Model", "maxUploadTitle", "()I"⟩ : MethodName) (head1 (Jvm.Cond.code (⟨"com/example/brisk_tune/brisktune/music/Model", "maxUploadTitle", "()I"⟩ : MethodName) prog_17_method_8_code 1 (some .int) :: ws) ({ frames := 1, cells := 0, slots := 0, locals := 12 } : Room)) (fun a U => a = #[(.ref a1)] ∧ Z.Warmed39 U.vm ∧ U.heap = h0) (fun _ _ _ _ _ => True) (fun _ U o U' => ∃ v L, o = .returned v ∧ Q_1_0 Z a1 h0 n0 v U'.heap L ∧ FrameEnd U o U' L ({ frames := 1, cells := 0, slots := 0, locals := 12 } : Room).cells ({ frames := 1, cells := 0, slots := 0, locals := 12 } : Room).slots) := by
  refine MetFree.of_bodySF (plainFor_of_name pn_com_example_brisk_tune_brisktune_music_Model) hisR ?_
  intro p e s m args below meth c s₁ Bd hml0 hP hK
  obtain ⟨rfl, hZ, hh⟩ := hP
  have hx := Bd.exec
  have hby := Bd.bytes
  have hml : c.maxLocals = 1 := hml0
  have hown : s.vm.findClass "com/example/brisk_tune/brisktune/music/Model" = some m.cls := findClass_of_methodNamed Bd.named
  have hnm := (name_of_methodNamed Bd.named Bd.method).1
  have X0 : Stand p l e ({ frames := 1, cells := 0, slots := 0, locals := 12 } : Room) s m #[(.ref a1)] below meth c s₁ [] 0 0 := Stand.of_body Bd
  have e0 : s₁.heap = h0 := by rw [← hh, Bd.state]; rfl
  have N0 := Fr.nil n0
  have pw0 : ∀ t, Steps p.tables e below (s₁.setTop (mkF m 0 #[.val (.ref a1)] [])) t → Steps p.tables e below (s₁.setTop (entryFrame m #[(.ref a1)] 1)) t := fun t k => castTop (ef_1_0 m a1) k
  have K0 : Keep h0 h0 [] := Keep.refl h0 []
  obtain ⟨cq2, kq2, q2a, q2b, q2c⟩ := isOf hZ e0 E_a
  obtain ⟨_, _, ⟨T2, L2, k2, n2⟩, -, X2, ⟨Lc2, hQ2, l2, y2, z2⟩, st2⟩ := X0.virtualBackUp hx (owner := "java/lang/Enum") (x := (⟨"com/example/brisk_tune/brisktune/music/Model", "ordinal", "()I"⟩ : MethodName)) (y := (⟨"java/lang/Enum", "ordinal", "()I"⟩ : MethodName)) hown (mvT hZ (hw _ (List.mem_of_getElem? (i := 9) rfl))) (mvT hZ (hw _ (List.mem_of_getElem? (i := 10) rfl))) (mvT hZ (hw _ (List.mem_of_getElem? (i := 11) rfl))) (by decide) (mvT hZ (hw _ (List.mem_of_getElem? (i := 13) rfl))) (mvT hZ (hw _ (List.mem_of_getElem? (i := 12) rfl))) (backOf (W := 0) (rm_2 l Z a0 hw [] a1 (0 : Int32) h0 n0 Z0 F_o) hZ (hw _ (List.mem_of_getElem? (i := 15) rfl)) (hw _ (List.mem_of_getElem? (i := 14) rfl)) (by decide) (by decide)) q2a q2c (g := (mkF m 1 #[.val (.ref a1)] [(.ref a1)])) rfl (by rw [hml]; rfl) (Steps.refl _) (argsL := []) (rest := []) (lenOf pd___I rfl) rfl (by show 2 * 0 + _ ≤ _; exact Nat.le_of_eq rfl) (hb hby d1_1) (fun _ _ => ⟨rfl, e0, (by decide : 0 + 0 ≤ _), (by decide : 0 + 0 ≤ _)⟩)
  dsimp only [Pt.U, Pt.locs, Pt.cells, Pt.slots] at X2 l2 y2 z2 st2 hQ2
  subst l2 y2 z2
  obtain ⟨rfl, N2q, e2q⟩ := hQ2
  have N2 := Fr.app N0 N2q
  obtain ⟨fs, hr, hrun, hended, hW, hsame⟩ := X2.leave (v := some (.int (80 : Int32))) (fun h => by rw [Bd.returns] at h; cases h)
  refine ⟨_, _, pw0 _ ?_, hrun, hended, _, _, rfl, ?_, ⟨_, rfl⟩, hW, hsame.mono (by decide) (by decide)⟩
  · skip
    refine XS.aloadN X0.here hx rfl (hb hby d1_0) rfl rfl ?_
    show Steps p.tables e below (s₁.setTop (mkF m 1 #[.val (.ref a1)] [(.ref a1)])) _
    refine st2.trans ?_
    show Steps p.tables e below (T2.setTop (mkF m 4 #[.val (.ref a1)] [(.int (0 : Int32))])) _
    refine XS.tswIn X2.here hx rfl (pc0 := 4) (pc' := 50) rfl (hb hby d1_4) rfl (by decide) (by rfl) (by decide) (by decide) ?_
    show Steps p.tables e below (T2.setTop (mkF m 50 #[.val (.ref a1)] [])) _
    refine XS.bipush X2.here hx rfl (hb hby d1_50) ?_
    show Steps p.tables e below (T2.setTop (mkF m 52 #[.val (.ref a1)] [(.int (80 : Int32))])) _
    refine XS.goto X2.here hx rfl (pc0 := 52) (pc' := 57) rfl (hb hby d1_52) (by decide) (by decide) ?_
    show Steps p.tables e below (T2.setTop (mkF m 57 #[.val (.ref a1)] [(.int (80 : Int32))])) _
    exact retI X2 hx Bd.returns (hb hby d1_57) hr
  · show Q_1_0 Z a1 h0 n0 _ T2.heap _
    rw [e2q]
    exact ⟨rfl, N2, rfl⟩
theorem ef_1_1 (m : MethodId) (x0 : Addr) : entryFrame m #[(.ref x0)] 1 = mkF m 0 #[.val (.ref x0)] [] := by first | (simp [entryFrame, mkF, argsToLocals, Value.category]; done) | rfl
def Q_1_1 (Z : State) (a1 : Addr) (h0 : Heap) (n0 : Nat) (v : Option Value) (h : Heap) (L : List Loc) : Prop := v = some (.int (80 : Int32)) ∧ Fr n0 L ∧ h = h0
set_option maxRecDepth 65536 in
set_option maxHeartbeats 40000000 in
theorem rm_1_1 (l : Launch) (Z : State) (a0 : Array Value) (hw : ∀ d ∈ tables_1, d.before a0 Z = true) (ws : List Jvm.Cond) (a1 : Addr) (h0 : Heap) (n0 : Nat) (Z0 : n0 ≤ h0.size) (E_a : Exa Z h0 a1 "com/example/brisk_tune/brisktune/music/Model") (F_o : Fld Z h0 a1 "java/lang/Enum" "ordinal" "I" (.int (1 : Int32))) :
    MetFree l (⟨"com/example/brisk_tune/brisktune/music/Model", "maxUploadTitle", "()I"⟩ : MethodName) (head1 (Jvm.Cond.code (⟨"com/example/brisk_tune/brisktune/music/Model", "maxUploadTitle", "()I"⟩ : MethodName) prog_17_method_8_code 1 (some .int) :: ws) ({ frames := 1, cells := 0, slots := 0, locals := 12 } : Room)) (fun a U => a = #[(.ref a1)] ∧ Z.Warmed39 U.vm ∧ U.heap = h0) (fun _ _ _ _ _ => True) (fun _ U o U' => ∃ v L, o = .returned v ∧ Q_1_1 Z a1 h0 n0 v U'.heap L ∧ FrameEnd U o U' L ({ frames := 1, cells := 0, slots := 0, locals := 12 } : Room).cells ({ frames := 1, cells := 0, slots := 0, locals := 12 } : Room).slots) := by
  refine MetFree.of_bodySF (plainFor_of_name pn_com_example_brisk_tune_brisktune_music_Model) hisR ?_
  intro p e s m args below meth c s₁ Bd hml0 hP hK
  obtain ⟨rfl, hZ, hh⟩ := hP
  have hx := Bd.exec
  have hby := Bd.bytes
  have hml : c.maxLocals = 1 := hml0
  have hown : s.vm.findClass "com/example/brisk_tune/brisktune/music/Model" = some m.cls := findClass_of_methodNamed Bd.named
  have hnm := (name_of_methodNamed Bd.named Bd.method).1
  have X0 : Stand p l e ({ frames := 1, cells := 0, slots := 0, locals := 12 } : Room) s m #[(.ref a1)] below meth c s₁ [] 0 0 := Stand.of_body Bd
  have e0 : s₁.heap = h0 := by rw [← hh, Bd.state]; rfl
  have N0 := Fr.nil n0
  have pw0 : ∀ t, Steps p.tables e below (s₁.setTop (mkF m 0 #[.val (.ref a1)] [])) t → Steps p.tables e below (s₁.setTop (entryFrame m #[(.ref a1)] 1)) t := fun t k => castTop (ef_1_1 m a1) k
  have K0 : Keep h0 h0 [] := Keep.refl h0 []
  obtain ⟨cq3, kq3, q3a, q3b, q3c⟩ := isOf hZ e0 E_a
  obtain ⟨_, _, ⟨T3, L3, k3, n3⟩, -, X3, ⟨Lc3, hQ3, l3, y3, z3⟩, st3⟩ := X0.virtualBackUp hx (owner := "java/lang/Enum") (x := (⟨"com/example/brisk_tune/brisktune/music/Model", "ordinal", "()I"⟩ : MethodName)) (y := (⟨"java/lang/Enum", "ordinal", "()I"⟩ : MethodName)) hown (mvT hZ (hw _ (List.mem_of_getElem? (i := 9) rfl))) (mvT hZ (hw _ (List.mem_of_getElem? (i := 10) rfl))) (mvT hZ (hw _ (List.mem_of_getElem? (i := 11) rfl))) (by decide) (mvT hZ (hw _ (List.mem_of_getElem? (i := 13) rfl))) (mvT hZ (hw _ (List.mem_of_getElem? (i := 12) rfl))) (backOf (W := 0) (rm_2 l Z a0 hw [] a1 (1 : Int32) h0 n0 Z0 F_o) hZ (hw _ (List.mem_of_getElem? (i := 15) rfl)) (hw _ (List.mem_of_getElem? (i := 14) rfl)) (by decide) (by decide)) q3a q3c (g := (mkF m 1 #[.val (.ref a1)] [(.ref a1)])) rfl (by rw [hml]; rfl) (Steps.refl _) (argsL := []) (rest := []) (lenOf pd___I rfl) rfl (by show 2 * 0 + _ ≤ _; exact Nat.le_of_eq rfl) (hb hby d1_1) (fun _ _ => ⟨rfl, e0, (by decide : 0 + 0 ≤ _), (by decide : 0 + 0 ≤ _)⟩)
  dsimp only [Pt.U, Pt.locs, Pt.cells, Pt.slots] at X3 l3 y3 z3 st3 hQ3
  subst l3 y3 z3
  obtain ⟨rfl, N3q, e3q⟩ := hQ3
  have N3 := Fr.app N0 N3q
  obtain ⟨fs, hr, hrun, hended, hW, hsame⟩ := X3.leave (v := some (.int (80 : Int32))) (fun h => by rw [Bd.returns] at h; cases h)
  refine ⟨_, _, pw0 _ ?_, hrun, hended, _, _, rfl, ?_, ⟨_, rfl⟩, hW, hsame.mono (by decide) (by decide)⟩
  · skip
    refine XS.aloadN X0.here hx rfl (hb hby d1_0) rfl rfl ?_
    show Steps p.tables e below (s₁.setTop (mkF m 1 #[.val (.ref a1)] [(.ref a1)])) _
    refine st3.trans ?_
    show Steps p.tables e below (T3.setTop (mkF m 4 #[.val (.ref a1)] [(.int (1 : Int32))])) _
    refine XS.tswIn X3.here hx rfl (pc0 := 4) (pc' := 50) rfl (hb hby d1_4) rfl (by decide) (by rfl) (by decide) (by decide) ?_
    show Steps p.tables e below (T3.setTop (mkF m 50 #[.val (.ref a1)] [])) _
    refine XS.bipush X3.here hx rfl (hb hby d1_50) ?_
    show Steps p.tables e below (T3.setTop (mkF m 52 #[.val (.ref a1)] [(.int (80 : Int32))])) _
    refine XS.goto X3.here hx rfl (pc0 := 52) (pc' := 57) rfl (hb hby d1_52) (by decide) (by decide) ?_
    show Steps p.tables e below (T3.setTop (mkF m 57 #[.val (.ref a1)] [(.int (80 : Int32))])) _
    exact retI X3 hx Bd.returns (hb hby d1_57) hr
  · show Q_1_1 Z a1 h0 n0 _ T3.heap _
    rw [e3q]
    exact ⟨rfl, N3, rfl⟩
theorem d1_55 : decode prog_17_method_8_code 55 = .ok (.bipush 100, 2) := by decide +kernel
theorem ef_1_2 (m : MethodId) (x0 : Addr) : entryFrame m #[(.ref x0)] 1 = mkF m 0 #[.val (.ref x0)] [] := by first | (simp [entryFrame, mkF, argsToLocals, Value.category]; done) | rfl
def Q_1_2 (Z : State) (a1 : Addr) (h0 : Heap) (n0 : Nat) (v : Option Value) (h : Heap) (L : List Loc) : Prop := v = some (.int (100 : Int32)) ∧ Fr n0 L ∧ h = h0
set_option maxRecDepth 65536 in
set_option maxHeartbeats 40000000 in
theorem rm_1_2 (l : Launch) (Z : State) (a0 : Array Value) (hw : ∀ d ∈ tables_1, d.before a0 Z = true) (ws : List Jvm.Cond) (a1 : Addr) (h0 : Heap) (n0 : Nat) (Z0 : n0 ≤ h0.size) (E_a : Exa Z h0 a1 "com/example/brisk_tune/brisktune/music/Model") (F_o : Fld Z h0 a1 "java/lang/Enum" "ordinal" "I" (.int (2 : Int32))) :
    MetFree l (⟨"com/example/brisk_tune/brisktune/music/Model", "maxUploadTitle", "()I"⟩ : MethodName) (head1 (Jvm.Cond.code (⟨"com/example/brisk_tune/brisktune/music/Model", "maxUploadTitle", "()I"⟩ : MethodName) prog_17_method_8_code 1 (some .int) :: ws) ({ frames := 1, cells := 0, slots := 0, locals := 12 } : Room)) (fun a U => a = #[(.ref a1)] ∧ Z.Warmed39 U.vm ∧ U.heap = h0) (fun _ _ _ _ _ => True) (fun _ U o U' => ∃ v L, o = .returned v ∧ Q_1_2 Z a1 h0 n0 v U'.heap L ∧ FrameEnd U o U' L ({ frames := 1, cells := 0, slots := 0, locals := 12 } : Room).cells ({ frames := 1, cells := 0, slots := 0, locals := 12 } : Room).slots) := by
  refine MetFree.of_bodySF (plainFor_of_name pn_com_example_brisk_tune_brisktune_music_Model) hisR ?_
  intro p e s m args below meth c s₁ Bd hml0 hP hK
  obtain ⟨rfl, hZ, hh⟩ := hP
  have hx := Bd.exec
  have hby := Bd.bytes
  have hml : c.maxLocals = 1 := hml0
  have hown : s.vm.findClass "com/example/brisk_tune/brisktune/music/Model" = some m.cls := findClass_of_methodNamed Bd.named
  have hnm := (name_of_methodNamed Bd.named Bd.method).1
  have X0 : Stand p l e ({ frames := 1, cells := 0, slots := 0, locals := 12 } : Room) s m #[(.ref a1)] below meth c s₁ [] 0 0 := Stand.of_body Bd
  have e0 : s₁.heap = h0 := by rw [← hh, Bd.state]; rfl
  have N0 := Fr.nil n0
  have pw0 : ∀ t, Steps p.tables e below (s₁.setTop (mkF m 0 #[.val (.ref a1)] [])) t → Steps p.tables e below (s₁.setTop (entryFrame m #[(.ref a1)] 1)) t := fun t k => castTop (ef_1_2 m a1) k
  have K0 : Keep h0 h0 [] := Keep.refl h0 []
  obtain ⟨cq4, kq4, q4a, q4b, q4c⟩ := isOf hZ e0 E_a
  obtain ⟨_, _, ⟨T4, L4, k4, n4⟩, -, X4, ⟨Lc4, hQ4, l4, y4, z4⟩, st4⟩ := X0.virtualBackUp hx (owner := "java/lang/Enum") (x := (⟨"com/example/brisk_tune/brisktune/music/Model", "ordinal", "()I"⟩ : MethodName)) (y := (⟨"java/lang/Enum", "ordinal", "()I"⟩ : MethodName)) hown (mvT hZ (hw _ (List.mem_of_getElem? (i := 9) rfl))) (mvT hZ (hw _ (List.mem_of_getElem? (i := 10) rfl))) (mvT hZ (hw _ (List.mem_of_getElem? (i := 11) rfl))) (by decide) (mvT hZ (hw _ (List.mem_of_getElem? (i := 13) rfl))) (mvT hZ (hw _ (List.mem_of_getElem? (i := 12) rfl))) (backOf (W := 0) (rm_2 l Z a0 hw [] a1 (2 : Int32) h0 n0 Z0 F_o) hZ (hw _ (List.mem_of_getElem? (i := 15) rfl)) (hw _ (List.mem_of_getElem? (i := 14) rfl)) (by decide) (by decide)) q4a q4c (g := (mkF m 1 #[.val (.ref a1)] [(.ref a1)])) rfl (by rw [hml]; rfl) (Steps.refl _) (argsL := []) (rest := []) (lenOf pd___I rfl) rfl (by show 2 * 0 + _ ≤ _; exact Nat.le_of_eq rfl) (hb hby d1_1) (fun _ _ => ⟨rfl, e0, (by decide : 0 + 0 ≤ _), (by decide : 0 + 0 ≤ _)⟩)
  dsimp only [Pt.U, Pt.locs, Pt.cells, Pt.slots] at X4 l4 y4 z4 st4 hQ4
  subst l4 y4 z4
  obtain ⟨rfl, N4q, e4q⟩ := hQ4
  have N4 := Fr.app N0 N4q
  obtain ⟨fs, hr, hrun, hended, hW, hsame⟩ := X4.leave (v := some (.int (100 : Int32))) (fun h => by rw [Bd.returns] at h; cases h)
  refine ⟨_, _, pw0 _ ?_, hrun, hended, _, _, rfl, ?_, ⟨_, rfl⟩, hW, hsame.mono (by decide) (by decide)⟩
  · skip
    refine XS.aloadN X0.here hx rfl (hb hby d1_0) rfl rfl ?_
    show Steps p.tables e below (s₁.setTop (mkF m 1 #[.val (.ref a1)] [(.ref a1)])) _
    refine st4.trans ?_
    show Steps p.tables e below (T4.setTop (mkF m 4 #[.val (.ref a1)] [(.int (2 : Int32))])) _
    refine XS.tswIn X4.here hx rfl (pc0 := 4) (pc' := 55) rfl (hb hby d1_4) rfl (by decide) (by rfl) (by decide) (by decide) ?_
    show Steps p.tables e below (T4.setTop (mkF m 55 #[.val (.ref a1)] [])) _
    refine XS.bipush X4.here hx rfl (hb hby d1_55) ?_
    show Steps p.tables e below (T4.setTop (mkF m 57 #[.val (.ref a1)] [(.int (100 : Int32))])) _
    exact retI X4 hx Bd.returns (hb hby d1_57) hr
  · show Q_1_2 Z a1 h0 n0 _ T4.heap _
    rw [e4q]
    exact ⟨rfl, N4, rfl⟩
theorem ef_1_3 (m : MethodId) (x0 : Addr) : entryFrame m #[(.ref x0)] 1 = mkF m 0 #[.val (.ref x0)] [] := by first | (simp [entryFrame, mkF, argsToLocals, Value.category]; done) | rfl
def Q_1_3 (Z : State) (a1 : Addr) (h0 : Heap) (n0 : Nat) (v : Option Value) (h : Heap) (L : List Loc) : Prop := v = some (.int (100 : Int32)) ∧ Fr n0 L ∧ h = h0
set_option maxRecDepth 65536 in
set_option maxHeartbeats 40000000 in
theorem rm_1_3 (l : Launch) (Z : State) (a0 : Array Value) (hw : ∀ d ∈ tables_1, d.before a0 Z = true) (ws : List Jvm.Cond) (a1 : Addr) (h0 : Heap) (n0 : Nat) (Z0 : n0 ≤ h0.size) (E_a : Exa Z h0 a1 "com/example/brisk_tune/brisktune/music/Model") (F_o : Fld Z h0 a1 "java/lang/Enum" "ordinal" "I" (.int (3 : Int32))) :
    MetFree l (⟨"com/example/brisk_tune/brisktune/music/Model", "maxUploadTitle", "()I"⟩ : MethodName) (head1 (Jvm.Cond.code (⟨"com/example/brisk_tune/brisktune/music/Model", "maxUploadTitle", "()I"⟩ : MethodName) prog_17_method_8_code 1 (some .int) :: ws) ({ frames := 1, cells := 0, slots := 0, locals := 12 } : Room)) (fun a U => a = #[(.ref a1)] ∧ Z.Warmed39 U.vm ∧ U.heap = h0) (fun _ _ _ _ _ => True) (fun _ U o U' => ∃ v L, o = .returned v ∧ Q_1_3 Z a1 h0 n0 v U'.heap L ∧ FrameEnd U o U' L ({ frames := 1, cells := 0, slots := 0, locals := 12 } : Room).cells ({ frames := 1, cells := 0, slots := 0, locals := 12 } : Room).slots) := by
  refine MetFree.of_bodySF (plainFor_of_name pn_com_example_brisk_tune_brisktune_music_Model) hisR ?_
  intro p e s m args below meth c s₁ Bd hml0 hP hK
  obtain ⟨rfl, hZ, hh⟩ := hP
  have hx := Bd.exec
  have hby := Bd.bytes
  have hml : c.maxLocals = 1 := hml0
  have hown : s.vm.findClass "com/example/brisk_tune/brisktune/music/Model" = some m.cls := findClass_of_methodNamed Bd.named
  have hnm := (name_of_methodNamed Bd.named Bd.method).1
  have X0 : Stand p l e ({ frames := 1, cells := 0, slots := 0, locals := 12 } : Room) s m #[(.ref a1)] below meth c s₁ [] 0 0 := Stand.of_body Bd
  have e0 : s₁.heap = h0 := by rw [← hh, Bd.state]; rfl
  have N0 := Fr.nil n0
  have pw0 : ∀ t, Steps p.tables e below (s₁.setTop (mkF m 0 #[.val (.ref a1)] [])) t → Steps p.tables e below (s₁.setTop (entryFrame m #[(.ref a1)] 1)) t := fun t k => castTop (ef_1_3 m a1) k
  have K0 : Keep h0 h0 [] := Keep.refl h0 []
  obtain ⟨cq5, kq5, q5a, q5b, q5c⟩ := isOf hZ e0 E_a
  obtain ⟨_, _, ⟨T5, L5, k5, n5⟩, -, X5, ⟨Lc5, hQ5, l5, y5, z5⟩, st5⟩ := X0.virtualBackUp hx (owner := "java/lang/Enum") (x := (⟨"com/example/brisk_tune/brisktune/music/Model", "ordinal", "()I"⟩ : MethodName)) (y := (⟨"java/lang/Enum", "ordinal", "()I"⟩ : MethodName)) hown (mvT hZ (hw _ (List.mem_of_getElem? (i := 9) rfl))) (mvT hZ (hw _ (List.mem_of_getElem? (i := 10) rfl))) (mvT hZ (hw _ (List.mem_of_getElem? (i := 11) rfl))) (by decide) (mvT hZ (hw _ (List.mem_of_getElem? (i := 13) rfl))) (mvT hZ (hw _ (List.mem_of_getElem? (i := 12) rfl))) (backOf (W := 0) (rm_2 l Z a0 hw [] a1 (3 : Int32) h0 n0 Z0 F_o) hZ (hw _ (List.mem_of_getElem? (i := 15) rfl)) (hw _ (List.mem_of_getElem? (i := 14) rfl)) (by decide) (by decide)) q5a q5c (g := (mkF m 1 #[.val (.ref a1)] [(.ref a1)])) rfl (by rw [hml]; rfl) (Steps.refl _) (argsL := []) (rest := []) (lenOf pd___I rfl) rfl (by show 2 * 0 + _ ≤ _; exact Nat.le_of_eq rfl) (hb hby d1_1) (fun _ _ => ⟨rfl, e0, (by decide : 0 + 0 ≤ _), (by decide : 0 + 0 ≤ _)⟩)
  dsimp only [Pt.U, Pt.locs, Pt.cells, Pt.slots] at X5 l5 y5 z5 st5 hQ5
  subst l5 y5 z5
  obtain ⟨rfl, N5q, e5q⟩ := hQ5
  have N5 := Fr.app N0 N5q
  obtain ⟨fs, hr, hrun, hended, hW, hsame⟩ := X5.leave (v := some (.int (100 : Int32))) (fun h => by rw [Bd.returns] at h; cases h)
  refine ⟨_, _, pw0 _ ?_, hrun, hended, _, _, rfl, ?_, ⟨_, rfl⟩, hW, hsame.mono (by decide) (by decide)⟩
  · skip
    refine XS.aloadN X0.here hx rfl (hb hby d1_0) rfl rfl ?_
    show Steps p.tables e below (s₁.setTop (mkF m 1 #[.val (.ref a1)] [(.ref a1)])) _
    refine st5.trans ?_
    show Steps p.tables e below (T5.setTop (mkF m 4 #[.val (.ref a1)] [(.int (3 : Int32))])) _
    refine XS.tswIn X5.here hx rfl (pc0 := 4) (pc' := 55) rfl (hb hby d1_4) rfl (by decide) (by rfl) (by decide) (by decide) ?_
    show Steps p.tables e below (T5.setTop (mkF m 55 #[.val (.ref a1)] [])) _
    refine XS.bipush X5.here hx rfl (hb hby d1_55) ?_
    show Steps p.tables e below (T5.setTop (mkF m 57 #[.val (.ref a1)] [(.int (100 : Int32))])) _
    exact retI X5 hx Bd.returns (hb hby d1_57) hr
  · show Q_1_3 Z a1 h0 n0 _ T5.heap _
    rw [e5q]
    exact ⟨rfl, N5, rfl⟩
theorem ef_1_4 (m : MethodId) (x0 : Addr) : entryFrame m #[(.ref x0)] 1 = mkF m 0 #[.val (.ref x0)] [] := by first | (simp [entryFrame, mkF, argsToLocals, Value.category]; done) | rfl
def Q_1_4 (Z : State) (a1 : Addr) (h0 : Heap) (n0 : Nat) (v : Option Value) (h : Heap) (L : List Loc) : Prop := v = some (.int (100 : Int32)) ∧ Fr n0 L ∧ h = h0
set_option maxRecDepth 65536 in
set_option maxHeartbeats 40000000 in
theorem rm_1_4 (l : Launch) (Z : State) (a0 : Array Value) (hw : ∀ d ∈ tables_1, d.before a0 Z = true) (ws : List Jvm.Cond) (a1 : Addr) (h0 : Heap) (n0 : Nat) (Z0 : n0 ≤ h0.size) (E_a : Exa Z h0 a1 "com/example/brisk_tune/brisktune/music/Model") (F_o : Fld Z h0 a1 "java/lang/Enum" "ordinal" "I" (.int (4 : Int32))) :
    MetFree l (⟨"com/example/brisk_tune/brisktune/music/Model", "maxUploadTitle", "()I"⟩ : MethodName) (head1 (Jvm.Cond.code (⟨"com/example/brisk_tune/brisktune/music/Model", "maxUploadTitle", "()I"⟩ : MethodName) prog_17_method_8_code 1 (some .int) :: ws) ({ frames := 1, cells := 0, slots := 0, locals := 12 } : Room)) (fun a U => a = #[(.ref a1)] ∧ Z.Warmed39 U.vm ∧ U.heap = h0) (fun _ _ _ _ _ => True) (fun _ U o U' => ∃ v L, o = .returned v ∧ Q_1_4 Z a1 h0 n0 v U'.heap L ∧ FrameEnd U o U' L ({ frames := 1, cells := 0, slots := 0, locals := 12 } : Room).cells ({ frames := 1, cells := 0, slots := 0, locals := 12 } : Room).slots) := by
  refine MetFree.of_bodySF (plainFor_of_name pn_com_example_brisk_tune_brisktune_music_Model) hisR ?_
  intro p e s m args below meth c s₁ Bd hml0 hP hK
  obtain ⟨rfl, hZ, hh⟩ := hP
  have hx := Bd.exec
  have hby := Bd.bytes
  have hml : c.maxLocals = 1 := hml0
  have hown : s.vm.findClass "com/example/brisk_tune/brisktune/music/Model" = some m.cls := findClass_of_methodNamed Bd.named
  have hnm := (name_of_methodNamed Bd.named Bd.method).1
  have X0 : Stand p l e ({ frames := 1, cells := 0, slots := 0, locals := 12 } : Room) s m #[(.ref a1)] below meth c s₁ [] 0 0 := Stand.of_body Bd
  have e0 : s₁.heap = h0 := by rw [← hh, Bd.state]; rfl
  have N0 := Fr.nil n0
  have pw0 : ∀ t, Steps p.tables e below (s₁.setTop (mkF m 0 #[.val (.ref a1)] [])) t → Steps p.tables e below (s₁.setTop (entryFrame m #[(.ref a1)] 1)) t := fun t k => castTop (ef_1_4 m a1) k
  have K0 : Keep h0 h0 [] := Keep.refl h0 []
  obtain ⟨cq6, kq6, q6a, q6b, q6c⟩ := isOf hZ e0 E_a
  obtain ⟨_, _, ⟨T6, L6, k6, n6⟩, -, X6, ⟨Lc6, hQ6, l6, y6, z6⟩, st6⟩ := X0.virtualBackUp hx (owner := "java/lang/Enum") (x := (⟨"com/example/brisk_tune/brisktune/music/Model", "ordinal", "()I"⟩ : MethodName)) (y := (⟨"java/lang/Enum", "ordinal", "()I"⟩ : MethodName)) hown (mvT hZ (hw _ (List.mem_of_getElem? (i := 9) rfl))) (mvT hZ (hw _ (List.mem_of_getElem? (i := 10) rfl))) (mvT hZ (hw _ (List.mem_of_getElem? (i := 11) rfl))) (by decide) (mvT hZ (hw _ (List.mem_of_getElem? (i := 13) rfl))) (mvT hZ (hw _ (List.mem_of_getElem? (i := 12) rfl))) (backOf (W := 0) (rm_2 l Z a0 hw [] a1 (4 : Int32) h0 n0 Z0 F_o) hZ (hw _ (List.mem_of_getElem? (i := 15) rfl)) (hw _ (List.mem_of_getElem? (i := 14) rfl)) (by decide) (by decide)) q6a q6c (g := (mkF m 1 #[.val (.ref a1)] [(.ref a1)])) rfl (by rw [hml]; rfl) (Steps.refl _) (argsL := []) (rest := []) (lenOf pd___I rfl) rfl (by show 2 * 0 + _ ≤ _; exact Nat.le_of_eq rfl) (hb hby d1_1) (fun _ _ => ⟨rfl, e0, (by decide : 0 + 0 ≤ _), (by decide : 0 + 0 ≤ _)⟩)
  dsimp only [Pt.U, Pt.locs, Pt.cells, Pt.slots] at X6 l6 y6 z6 st6 hQ6
  subst l6 y6 z6
  obtain ⟨rfl, N6q, e6q⟩ := hQ6
  have N6 := Fr.app N0 N6q
  obtain ⟨fs, hr, hrun, hended, hW, hsame⟩ := X6.leave (v := some (.int (100 : Int32))) (fun h => by rw [Bd.returns] at h; cases h)
  refine ⟨_, _, pw0 _ ?_, hrun, hended, _, _, rfl, ?_, ⟨_, rfl⟩, hW, hsame.mono (by decide) (by decide)⟩
  · skip
    refine XS.aloadN X0.here hx rfl (hb hby d1_0) rfl rfl ?_
    show Steps p.tables e below (s₁.setTop (mkF m 1 #[.val (.ref a1)] [(.ref a1)])) _
    refine st6.trans ?_
    show Steps p.tables e below (T6.setTop (mkF m 4 #[.val (.ref a1)] [(.int (4 : Int32))])) _
    refine XS.tswIn X6.here hx rfl (pc0 := 4) (pc' := 55) rfl (hb hby d1_4) rfl (by decide) (by rfl) (by decide) (by decide) ?_
    show Steps p.tables e below (T6.setTop (mkF m 55 #[.val (.ref a1)] [])) _
    refine XS.bipush X6.here hx rfl (hb hby d1_55) ?_
    show Steps p.tables e below (T6.setTop (mkF m 57 #[.val (.ref a1)] [(.int (100 : Int32))])) _
    exact retI X6 hx Bd.returns (hb hby d1_57) hr
  · show Q_1_4 Z a1 h0 n0 _ T6.heap _
    rw [e6q]
    exact ⟨rfl, N6, rfl⟩
theorem ef_0 (m : MethodId) (x0 : Int32) : entryFrame m #[(.int x0)] maxLocals = mkF m 0 #[.val (.int x0), .unset, .unset, .unset] [] := by first | (simp [entryFrame, mkF, argsToLocals, Value.category, maxLocals]; done) | rfl
theorem pn_com_example_brisk_tune_brisktune_music_ModelMaxUploadTitlePinLaw : plainName "com/example/brisk_tune/brisktune/music/ModelMaxUploadTitlePinLaw" = true := by first | (simp [plainName, overriddenIn]; done) | decide +kernel
def Q_0 (Z : State) (x0 : Int32) (b0 b1 b2 b3 b4 : Addr) (h0 : Heap) (n0 : Nat) (v : Option Value) (h : Heap) (L : List Loc) : Prop := v = some (.int 1) ∧ Fr n0 L
set_option maxRecDepth 65536 in
set_option maxHeartbeats 40000000 in
theorem rm_0 (l : Launch) (Z : State) (a0 : Array Value) (hw : ∀ d ∈ tables_1, d.before a0 Z = true) (ws : List Jvm.Cond) (x0 : Int32) (b0 b1 b2 b3 b4 : Addr) (h0 : Heap) (n0 : Nat) (Z0 : n0 ≤ h0.size) (S_b0 : Sta Z h0 "com/example/brisk_tune/brisktune/music/Model" "V3_5" "Lcom/example/brisk_tune/brisktune/music/Model;" (.ref b0)) (S_b1 : Sta Z h0 "com/example/brisk_tune/brisktune/music/Model" "V4" "Lcom/example/brisk_tune/brisktune/music/Model;" (.ref b1)) (S_b2 : Sta Z h0 "com/example/brisk_tune/brisktune/music/Model" "V4_5" "Lcom/example/brisk_tune/brisktune/music/Model;" (.ref b2)) (S_b3 : Sta Z h0 "com/example/brisk_tune/brisktune/music/Model" "V4_5PLUS" "Lcom/example/brisk_tune/brisktune/music/Model;" (.ref b3)) (S_b4 : Sta Z h0 "com/example/brisk_tune/brisktune/music/Model" "V5" "Lcom/example/brisk_tune/brisktune/music/Model;" (.ref b4)) (E_b0 : Exa Z h0 b0 "com/example/brisk_tune/brisktune/music/Model") (E_b1 : Exa Z h0 b1 "com/example/brisk_tune/brisktune/music/Model") (E_b2 : Exa Z h0 b2 "com/example/brisk_tune/brisktune/music/Model") (E_b3 : Exa Z h0 b3 "com/example/brisk_tune/brisktune/music/Model") (E_b4 : Exa Z h0 b4 "com/example/brisk_tune/brisktune/music/Model") (F_b0 : Fld Z h0 b0 "java/lang/Enum" "ordinal" "I" (.int (0 : Int32))) (F_b1 : Fld Z h0 b1 "java/lang/Enum" "ordinal" "I" (.int (1 : Int32))) (F_b2 : Fld Z h0 b2 "java/lang/Enum" "ordinal" "I" (.int (2 : Int32))) (F_b3 : Fld Z h0 b3 "java/lang/Enum" "ordinal" "I" (.int (3 : Int32))) (F_b4 : Fld Z h0 b4 "java/lang/Enum" "ordinal" "I" (.int (4 : Int32))) :
    MetFree l x (head1 (Jvm.Cond.code x code maxLocals ret :: ws) room_1) (fun a U => a = #[(.int x0)] ∧ Z.Warmed39 U.vm ∧ U.heap = h0) (fun _ _ _ _ _ => True) (fun _ U o U' => ∃ v L, o = .returned v ∧ Q_0 Z x0 b0 b1 b2 b3 b4 h0 n0 v U'.heap L ∧ FrameEnd U o U' L room_1.cells room_1.slots) := by
  refine MetFree.of_bodySF (plainFor_of_name pn_com_example_brisk_tune_brisktune_music_ModelMaxUploadTitlePinLaw) hisR ?_
  intro p e s m args below meth c s₁ Bd hml0 hP hK
  obtain ⟨rfl, hZ, hh⟩ := hP
  have hx := Bd.exec
  have hby := Bd.bytes
  have hml : c.maxLocals = 4 := hml0
  have hown : s.vm.findClass "com/example/brisk_tune/brisktune/music/ModelMaxUploadTitlePinLaw" = some m.cls := findClass_of_methodNamed Bd.named
  have hnm := (name_of_methodNamed Bd.named Bd.method).1
  have X0 : Stand p l e room_1 s m #[(.int x0)] below meth c s₁ [] 0 0 := Stand.of_body Bd
  have e0 : s₁.heap = h0 := by rw [← hh, Bd.state]; rfl
  have N0 := Fr.nil n0
  have pw0 : ∀ t, Steps p.tables e below (s₁.setTop (mkF m 0 #[.val (.int x0), .unset, .unset, .unset] [])) t → Steps p.tables e below (s₁.setTop (entryFrame m #[(.int x0)] maxLocals)) t := fun t k => castTop (ef_0 m x0) k
  have K0 : Keep h0 h0 [] := Keep.refl h0 []
  have pw7 : ∀ t, Steps p.tables e below (s₁.setTop (mkF m 8 #[.val (.int x0), .val (.int ((x0 &&& (2147483647 : Int32)) % (5 : Int32))), .unset, .unset] [(.int ((x0 &&& (2147483647 : Int32)) % (5 : Int32)))])) t → Steps p.tables e below (s₁.setTop (entryFrame m #[(.int x0)] maxLocals)) t := by
    intro t k
    refine pw0 t ?_
    refine XS.iloadN X0.here hx rfl (hb hby at_0) rfl ?_
    show Steps p.tables e below (s₁.setTop (mkF m 1 #[.val (.int x0), .unset, .unset, .unset] [(.int x0)])) _
    refine X0.ldcInt hx hown (mvT hZ (hw _ (List.mem_of_getElem? (i := 0) rfl))) (g := (mkF m 1 #[.val (.int x0), .unset, .unset, .unset] [(.int x0)])) rfl (hb hby at_1) _ ?_
    show Steps p.tables e below (s₁.setTop (mkF m 3 #[.val (.int x0), .unset, .unset, .unset] [(.int (2147483647 : Int32)), (.int x0)])) _
    refine XS.iand X0.here hx rfl (hb hby at_3) rfl ?_
    show Steps p.tables e below (s₁.setTop (mkF m 4 #[.val (.int x0), .unset, .unset, .unset] [(.int (x0 &&& (2147483647 : Int32)))])) _
    refine XS.iconst X0.here hx rfl (hb hby at_4) ?_
    show Steps p.tables e below (s₁.setTop (mkF m 5 #[.val (.int x0), .unset, .unset, .unset] [(.int (5 : Int32)), (.int (x0 &&& (2147483647 : Int32)))])) _
    refine iremM (g := (mkF m 5 #[.val (.int x0), .unset, .unset, .unset] [(.int (5 : Int32)), (.int (x0 &&& (2147483647 : Int32)))])) X0 hx rfl (hb hby at_5) rfl (by decide) ?_
    show Steps p.tables e below (s₁.setTop (mkF m 6 #[.val (.int x0), .unset, .unset, .unset] [(.int ((x0 &&& (2147483647 : Int32)) % (5 : Int32)))])) _
    refine XS.istoreN X0.here hx rfl (hb hby at_6) rfl (l' := #[.val (.int x0), .val (.int ((x0 &&& (2147483647 : Int32)) % (5 : Int32))), .unset, .unset]) rfl ?_
    show Steps p.tables e below (s₁.setTop (mkF m 7 #[.val (.int x0), .val (.int ((x0 &&& (2147483647 : Int32)) % (5 : Int32))), .unset, .unset] [])) _
    refine XS.iloadN X0.here hx rfl (hb hby at_7) rfl ?_
    show Steps p.tables e below (s₁.setTop (mkF m 8 #[.val (.int x0), .val (.int ((x0 &&& (2147483647 : Int32)) % (5 : Int32))), .unset, .unset] [(.int ((x0 &&& (2147483647 : Int32)) % (5 : Int32)))])) _
    exact k
  by_cases hc8 : ((x0 &&& (2147483647 : Int32)) % (5 : Int32)) = (0 : Int32)
  · skip
    obtain ⟨T9, X9, e9, st9⟩ := getS2 X0 hx hZ hown (host := "") (Or.inl (hw _ (List.mem_of_getElem? (i := 1) rfl))) Via.refl e0 S_b0 (g := (mkF m 11 #[.val (.int x0), .val (.int ((x0 &&& (2147483647 : Int32)) % (5 : Int32))), .unset, .unset] [])) rfl (hb hby at_11)
    obtain ⟨cq10, kq10, q10a, q10b, q10c⟩ := isOf hZ e9 E_b0
    obtain ⟨_, _, ⟨T10, L10, k10, n10⟩, -, X10, ⟨Lc10, hQ10, l10, y10, z10⟩, st10⟩ := X9.virtualBack hx (y := (⟨"com/example/brisk_tune/brisktune/music/Model", "maxUploadTitle", "()I"⟩ : MethodName)) (z := (⟨"com/example/brisk_tune/brisktune/music/Model", "maxUploadTitle", "()I"⟩ : MethodName)) hown (mvT hZ (hw _ (List.mem_of_getElem? (i := 4) rfl))) (mvT hZ (hw _ (List.mem_of_getElem? (i := 5) rfl))) (notFace_of_selects (args := #[]) (mvT hZ (hw _ (List.mem_of_getElem? (i := 7) rfl)))) (mvT hZ (hw _ (List.mem_of_getElem? (i := 7) rfl))) (mvT hZ (hw _ (List.mem_of_getElem? (i := 6) rfl))) (by decide) (backOf (W := 0) (rm_1_0 l Z a0 hw [] b0 h0 n0 Z0 E_b0 F_b0) hZ (hw _ (List.mem_of_getElem? (i := 8) rfl)) (hw _ (List.mem_of_getElem? (i := 2) rfl)) (by decide) (by decide)) q10a q10c (g := (mkF m 74 #[.val (.int x0), .val (.int ((x0 &&& (2147483647 : Int32)) % (5 : Int32))), .val (.ref b0), .val (.int (80 : Int32))] [(.ref b0)])) rfl (by rw [hml]; rfl) (Steps.refl _) (argsL := []) (rest := []) (lenOf pd___I rfl) rfl (by show 2 * 0 + _ ≤ _; exact Nat.le_of_eq rfl) (hb hby at_74) (fun _ _ => ⟨rfl, e9, (by decide : 0 + 0 ≤ _), (by decide : 0 + 0 ≤ _)⟩)
    dsimp only [Pt.U, Pt.locs, Pt.cells, Pt.slots] at X10 l10 y10 z10 st10 hQ10
    subst l10 y10 z10
    obtain ⟨rfl, N10q, e10q⟩ := hQ10
    have N10 := Fr.app N0 N10q
    obtain ⟨fs, hr, hrun, hended, hW, hsame⟩ := X10.leave (v := some (.int (1 : Int32))) (fun h => by rw [Bd.returns] at h; cases h)
    refine ⟨_, _, pw7 _ ?_, hrun, hended, _, _, rfl, ?_, ⟨_, rfl⟩, hW, hsame.mono (by decide) (by decide)⟩
    · skip
      refine XS.ifNo X0.here hx rfl (hb hby at_8) rfl ((if0 _ _).trans (teq hc8).2) ?_
      show Steps p.tables e below (s₁.setTop (mkF m 11 #[.val (.int x0), .val (.int ((x0 &&& (2147483647 : Int32)) % (5 : Int32))), .unset, .unset] [])) _
      refine st9 _ ?_
      show Steps p.tables e below (T9.setTop (mkF m 14 #[.val (.int x0), .val (.int ((x0 &&& (2147483647 : Int32)) % (5 : Int32))), .unset, .unset] [(.ref b0)])) _
      refine XS.astoreN X9.here hx rfl (hb hby at_14) rfl rfl (l' := #[.val (.int x0), .val (.int ((x0 &&& (2147483647 : Int32)) % (5 : Int32))), .val (.ref b0), .unset]) rfl ?_
      show Steps p.tables e below (T9.setTop (mkF m 15 #[.val (.int x0), .val (.int ((x0 &&& (2147483647 : Int32)) % (5 : Int32))), .val (.ref b0), .unset] [])) _
      refine XS.bipush X9.here hx rfl (hb hby at_15) ?_
      show Steps p.tables e below (T9.setTop (mkF m 17 #[.val (.int x0), .val (.int ((x0 &&& (2147483647 : Int32)) % (5 : Int32))), .val (.ref b0), .unset] [(.int (80 : Int32))])) _
      refine XS.istoreN X9.here hx rfl (hb hby at_17) rfl (l' := #[.val (.int x0), .val (.int ((x0 &&& (2147483647 : Int32)) % (5 : Int32))), .val (.ref b0), .val (.int (80 : Int32))]) rfl ?_
      show Steps p.tables e below (T9.setTop (mkF m 18 #[.val (.int x0), .val (.int ((x0 &&& (2147483647 : Int32)) % (5 : Int32))), .val (.ref b0), .val (.int (80 : Int32))] [])) _
      refine XS.goto X9.here hx rfl (pc0 := 18) (pc' := 73) rfl (hb hby at_18) (by decide) (by decide) ?_
      show Steps p.tables e below (T9.setTop (mkF m 73 #[.val (.int x0), .val (.int ((x0 &&& (2147483647 : Int32)) % (5 : Int32))), .val (.ref b0), .val (.int (80 : Int32))] [])) _
      refine XS.aloadN X9.here hx rfl (hb hby at_73) rfl rfl ?_
      show Steps p.tables e below (T9.setTop (mkF m 74 #[.val (.int x0), .val (.int ((x0 &&& (2147483647 : Int32)) % (5 : Int32))), .val (.ref b0), .val (.int (80 : Int32))] [(.ref b0)])) _
      refine st10.trans ?_
      show Steps p.tables e below (T10.setTop (mkF m 77 #[.val (.int x0), .val (.int ((x0 &&& (2147483647 : Int32)) % (5 : Int32))), .val (.ref b0), .val (.int (80 : Int32))] [(.int (80 : Int32))])) _
      refine XS.iloadN X10.here hx rfl (hb hby at_77) rfl ?_
      show Steps p.tables e below (T10.setTop (mkF m 78 #[.val (.int x0), .val (.int ((x0 &&& (2147483647 : Int32)) % (5 : Int32))), .val (.ref b0), .val (.int (80 : Int32))] [(.int (80 : Int32)), (.int (80 : Int32))])) _
      refine XS.icmpNo X10.here hx rfl (hb hby at_78) rfl (teq (by decide : (80 : Int32) = (80 : Int32))).2 ?_
      show Steps p.tables e below (T10.setTop (mkF m 81 #[.val (.int x0), .val (.int ((x0 &&& (2147483647 : Int32)) % (5 : Int32))), .val (.ref b0), .val (.int (80 : Int32))] [])) _
      refine XS.iconst X10.here hx rfl (hb hby at_81) ?_
      show Steps p.tables e below (T10.setTop (mkF m 82 #[.val (.int x0), .val (.int ((x0 &&& (2147483647 : Int32)) % (5 : Int32))), .val (.ref b0), .val (.int (80 : Int32))] [(.int (1 : Int32))])) _
      refine XS.goto X10.here hx rfl (pc0 := 82) (pc' := 86) rfl (hb hby at_82) (by decide) (by decide) ?_
      show Steps p.tables e below (T10.setTop (mkF m 86 #[.val (.int x0), .val (.int ((x0 &&& (2147483647 : Int32)) % (5 : Int32))), .val (.ref b0), .val (.int (80 : Int32))] [(.int (1 : Int32))])) _
      exact retN X10 hx (t := .boolean) Bd.returns (by simp) (hb hby at_86) hr
    · show Q_0 Z x0 b0 b1 b2 b3 b4 h0 n0 _ T10.heap _
      rw [e10q]
      exact ⟨rfl, N10⟩
  · skip
    have pw11 : ∀ t, Steps p.tables e below (s₁.setTop (mkF m 23 #[.val (.int x0), .val (.int ((x0 &&& (2147483647 : Int32)) % (5 : Int32))), .unset, .unset] [(.int (1 : Int32)), (.int ((x0 &&& (2147483647 : Int32)) % (5 : Int32)))])) t → Steps p.tables e below (s₁.setTop (entryFrame m #[(.int x0)] maxLocals)) t := by
      intro t k
      refine pw7 t ?_
      refine XS.ifYes X0.here hx rfl (pc0 := 8) (pc' := 21) rfl (hb hby at_8) rfl ((if0 _ _).trans (feq hc8).2) (by decide) (by decide) ?_
      show Steps p.tables e below (s₁.setTop (mkF m 21 #[.val (.int x0), .val (.int ((x0 &&& (2147483647 : Int32)) % (5 : Int32))), .unset, .unset] [])) _
      refine XS.iloadN X0.here hx rfl (hb hby at_21) rfl ?_
      show Steps p.tables e below (s₁.setTop (mkF m 22 #[.val (.int x0), .val (.int ((x0 &&& (2147483647 : Int32)) % (5 : Int32))), .unset, .unset] [(.int ((x0 &&& (2147483647 : Int32)) % (5 : Int32)))])) _
      refine XS.iconst X0.here hx rfl (hb hby at_22) ?_
      show Steps p.tables e below (s₁.setTop (mkF m 23 #[.val (.int x0), .val (.int ((x0 &&& (2147483647 : Int32)) % (5 : Int32))), .unset, .unset] [(.int (1 : Int32)), (.int ((x0 &&& (2147483647 : Int32)) % (5 : Int32)))])) _
      exact k
    by_cases hc12 : ((x0 &&& (2147483647 : Int32)) % (5 : Int32)) = (1 : Int32)
    · skip
      obtain ⟨T13, X13, e13, st13⟩ := getS2 X0 hx hZ hown (host := "") (Or.inl (hw _ (List.mem_of_getElem? (i := 20) rfl))) Via.refl e0 S_b1 (g := (mkF m 26 #[.val (.int x0), .val (.int ((x0 &&& (2147483647 : Int32)) % (5 : Int32))), .unset, .unset] [])) rfl (hb hby at_26)
      obtain ⟨cq14, kq14, q14a, q14b, q14c⟩ := isOf hZ e13 E_b1
      obtain ⟨_, _, ⟨T14, L14, k14, n14⟩, -, X14, ⟨Lc14, hQ14, l14, y14, z14⟩, st14⟩ := X13.virtualBack hx (y := (⟨"com/example/brisk_tune/brisktune/music/Model", "maxUploadTitle", "()I"⟩ : MethodName)) (z := (⟨"com/example/brisk_tune/brisktune/music/Model", "maxUploadTitle", "()I"⟩ : MethodName)) hown (mvT hZ (hw _ (List.mem_of_getElem? (i := 4) rfl))) (mvT hZ (hw _ (List.mem_of_getElem? (i := 5) rfl))) (notFace_of_selects (args := #[]) (mvT hZ (hw _ (List.mem_of_getElem? (i := 7) rfl)))) (mvT hZ (hw _ (List.mem_of_getElem? (i := 7) rfl))) (mvT hZ (hw _ (List.mem_of_getElem? (i := 6) rfl))) (by decide) (backOf (W := 0) (rm_1_1 l Z a0 hw [] b1 h0 n0 Z0 E_b1 F_b1) hZ (hw _ (List.mem_of_getElem? (i := 8) rfl)) (hw _ (List.mem_of_getElem? (i := 2) rfl)) (by decide) (by decide)) q14a q14c (g := (mkF m 74 #[.val (.int x0), .val (.int ((x0 &&& (2147483647 : Int32)) % (5 : Int32))), .val (.ref b1), .val (.int (80 : Int32))] [(.ref b1)])) rfl (by rw [hml]; rfl) (Steps.refl _) (argsL := []) (rest := []) (lenOf pd___I rfl) rfl (by show 2 * 0 + _ ≤ _; exact Nat.le_of_eq rfl) (hb hby at_74) (fun _ _ => ⟨rfl, e13, (by decide : 0 + 0 ≤ _), (by decide : 0 + 0 ≤ _)⟩)
      dsimp only [Pt.U, Pt.locs, Pt.cells, Pt.slots] at X14 l14 y14 z14 st14 hQ14
      subst l14 y14 z14
      obtain ⟨rfl, N14q, e14q⟩ := hQ14
      have N14 := Fr.app N0 N14q
      obtain ⟨fs, hr, hrun, hended, hW, hsame⟩ := X14.leave (v := some (.int (1 : Int32))) (fun h => by rw [Bd.returns] at h; cases h)
      refine ⟨_, _, pw11 _ ?_, hrun, hended, _, _, rfl, ?_, ⟨_, rfl⟩, hW, hsame.mono (by decide) (by decide)⟩
      · skip
        refine XS.icmpNo X0.here hx rfl (hb hby at_23) rfl (teq hc12).2 ?_
        show Steps p.tables e below (s₁.setTop (mkF m 26 #[.val (.int x0), .val (.int ((x0 &&& (2147483647 : Int32)) % (5 : Int32))), .unset, .unset] [])) _
        refine st13 _ ?_
        show Steps p.tables e below (T13.setTop (mkF m 29 #[.val (.int x0), .val (.int ((x0 &&& (2147483647 : Int32)) % (5 : Int32))), .unset, .unset] [(.ref b1)])) _
        refine XS.astoreN X13.here hx rfl (hb hby at_29) rfl rfl (l' := #[.val (.int x0), .val (.int ((x0 &&& (2147483647 : Int32)) % (5 : Int32))), .val (.ref b1), .unset]) rfl ?_
        show Steps p.tables e below (T13.setTop (mkF m 30 #[.val (.int x0), .val (.int ((x0 &&& (2147483647 : Int32)) % (5 : Int32))), .val (.ref b1), .unset] [])) _
        refine XS.bipush X13.here hx rfl (hb hby at_30) ?_
        show Steps p.tables e below (T13.setTop (mkF m 32 #[.val (.int x0), .val (.int ((x0 &&& (2147483647 : Int32)) % (5 : Int32))), .val (.ref b1), .unset] [(.int (80 : Int32))])) _
        refine XS.istoreN X13.here hx rfl (hb hby at_32) rfl (l' := #[.val (.int x0), .val (.int ((x0 &&& (2147483647 : Int32)) % (5 : Int32))), .val (.ref b1), .val (.int (80 : Int32))]) rfl ?_
        show Steps p.tables e below (T13.setTop (mkF m 33 #[.val (.int x0), .val (.int ((x0 &&& (2147483647 : Int32)) % (5 : Int32))), .val (.ref b1), .val (.int (80 : Int32))] [])) _
        refine XS.goto X13.here hx rfl (pc0 := 33) (pc' := 73) rfl (hb hby at_33) (by decide) (by decide) ?_
        show Steps p.tables e below (T13.setTop (mkF m 73 #[.val (.int x0), .val (.int ((x0 &&& (2147483647 : Int32)) % (5 : Int32))), .val (.ref b1), .val (.int (80 : Int32))] [])) _
        refine XS.aloadN X13.here hx rfl (hb hby at_73) rfl rfl ?_
        show Steps p.tables e below (T13.setTop (mkF m 74 #[.val (.int x0), .val (.int ((x0 &&& (2147483647 : Int32)) % (5 : Int32))), .val (.ref b1), .val (.int (80 : Int32))] [(.ref b1)])) _
        refine st14.trans ?_
        show Steps p.tables e below (T14.setTop (mkF m 77 #[.val (.int x0), .val (.int ((x0 &&& (2147483647 : Int32)) % (5 : Int32))), .val (.ref b1), .val (.int (80 : Int32))] [(.int (80 : Int32))])) _
        refine XS.iloadN X14.here hx rfl (hb hby at_77) rfl ?_
        show Steps p.tables e below (T14.setTop (mkF m 78 #[.val (.int x0), .val (.int ((x0 &&& (2147483647 : Int32)) % (5 : Int32))), .val (.ref b1), .val (.int (80 : Int32))] [(.int (80 : Int32)), (.int (80 : Int32))])) _
        refine XS.icmpNo X14.here hx rfl (hb hby at_78) rfl (teq (by decide : (80 : Int32) = (80 : Int32))).2 ?_
        show Steps p.tables e below (T14.setTop (mkF m 81 #[.val (.int x0), .val (.int ((x0 &&& (2147483647 : Int32)) % (5 : Int32))), .val (.ref b1), .val (.int (80 : Int32))] [])) _
        refine XS.iconst X14.here hx rfl (hb hby at_81) ?_
        show Steps p.tables e below (T14.setTop (mkF m 82 #[.val (.int x0), .val (.int ((x0 &&& (2147483647 : Int32)) % (5 : Int32))), .val (.ref b1), .val (.int (80 : Int32))] [(.int (1 : Int32))])) _
        refine XS.goto X14.here hx rfl (pc0 := 82) (pc' := 86) rfl (hb hby at_82) (by decide) (by decide) ?_
        show Steps p.tables e below (T14.setTop (mkF m 86 #[.val (.int x0), .val (.int ((x0 &&& (2147483647 : Int32)) % (5 : Int32))), .val (.ref b1), .val (.int (80 : Int32))] [(.int (1 : Int32))])) _
        exact retN X14 hx (t := .boolean) Bd.returns (by simp) (hb hby at_86) hr
      · show Q_0 Z x0 b0 b1 b2 b3 b4 h0 n0 _ T14.heap _
        rw [e14q]
        exact ⟨rfl, N14⟩
    · skip
      have pw15 : ∀ t, Steps p.tables e below (s₁.setTop (mkF m 38 #[.val (.int x0), .val (.int ((x0 &&& (2147483647 : Int32)) % (5 : Int32))), .unset, .unset] [(.int (2 : Int32)), (.int ((x0 &&& (2147483647 : Int32)) % (5 : Int32)))])) t → Steps p.tables e below (s₁.setTop (entryFrame m #[(.int x0)] maxLocals)) t := by
        intro t k
        refine pw11 t ?_
        refine XS.icmpYes X0.here hx rfl (pc0 := 23) (pc' := 36) rfl (hb hby at_23) rfl (feq hc12).2 (by decide) (by decide) ?_
        show Steps p.tables e below (s₁.setTop (mkF m 36 #[.val (.int x0), .val (.int ((x0 &&& (2147483647 : Int32)) % (5 : Int32))), .unset, .unset] [])) _
        refine XS.iloadN X0.here hx rfl (hb hby at_36) rfl ?_
        show Steps p.tables e below (s₁.setTop (mkF m 37 #[.val (.int x0), .val (.int ((x0 &&& (2147483647 : Int32)) % (5 : Int32))), .unset, .unset] [(.int ((x0 &&& (2147483647 : Int32)) % (5 : Int32)))])) _
        refine XS.iconst X0.here hx rfl (hb hby at_37) ?_
        show Steps p.tables e below (s₁.setTop (mkF m 38 #[.val (.int x0), .val (.int ((x0 &&& (2147483647 : Int32)) % (5 : Int32))), .unset, .unset] [(.int (2 : Int32)), (.int ((x0 &&& (2147483647 : Int32)) % (5 : Int32)))])) _
        exact k
      by_cases hc16 : ((x0 &&& (2147483647 : Int32)) % (5 : Int32)) = (2 : Int32)
      · skip
        obtain ⟨T17, X17, e17, st17⟩ := getS2 X0 hx hZ hown (host := "") (Or.inl (hw _ (List.mem_of_getElem? (i := 24) rfl))) Via.refl e0 S_b2 (g := (mkF m 41 #[.val (.int x0), .val (.int ((x0 &&& (2147483647 : Int32)) % (5 : Int32))), .unset, .unset] [])) rfl (hb hby at_41)
        obtain ⟨cq18, kq18, q18a, q18b, q18c⟩ := isOf hZ e17 E_b2
        obtain ⟨_, _, ⟨T18, L18, k18, n18⟩, -, X18, ⟨Lc18, hQ18, l18, y18, z18⟩, st18⟩ := X17.virtualBack hx (y := (⟨"com/example/brisk_tune/brisktune/music/Model", "maxUploadTitle", "()I"⟩ : MethodName)) (z := (⟨"com/example/brisk_tune/brisktune/music/Model", "maxUploadTitle", "()I"⟩ : MethodName)) hown (mvT hZ (hw _ (List.mem_of_getElem? (i := 4) rfl))) (mvT hZ (hw _ (List.mem_of_getElem? (i := 5) rfl))) (notFace_of_selects (args := #[]) (mvT hZ (hw _ (List.mem_of_getElem? (i := 7) rfl)))) (mvT hZ (hw _ (List.mem_of_getElem? (i := 7) rfl))) (mvT hZ (hw _ (List.mem_of_getElem? (i := 6) rfl))) (by decide) (backOf (W := 0) (rm_1_2 l Z a0 hw [] b2 h0 n0 Z0 E_b2 F_b2) hZ (hw _ (List.mem_of_getElem? (i := 8) rfl)) (hw _ (List.mem_of_getElem? (i := 2) rfl)) (by decide) (by decide)) q18a q18c (g := (mkF m 74 #[.val (.int x0), .val (.int ((x0 &&& (2147483647 : Int32)) % (5 : Int32))), .val (.ref b2), .val (.int (100 : Int32))] [(.ref b2)])) rfl (by rw [hml]; rfl) (Steps.refl _) (argsL := []) (rest := []) (lenOf pd___I rfl) rfl (by show 2 * 0 + _ ≤ _; exact Nat.le_of_eq rfl) (hb hby at_74) (fun _ _ => ⟨rfl, e17, (by decide : 0 + 0 ≤ _), (by decide : 0 + 0 ≤ _)⟩)
        dsimp only [Pt.U, Pt.locs, Pt.cells, Pt.slots] at X18 l18 y18 z18 st18 hQ18
        subst l18 y18 z18
        obtain ⟨rfl, N18q, e18q⟩ := hQ18
        have N18 := Fr.app N0 N18q
        obtain ⟨fs, hr, hrun, hended, hW, hsame⟩ := X18.leave (v := some (.int (1 : Int32))) (fun h => by rw [Bd.returns] at h; cases h)
        refine ⟨_, _, pw15 _ ?_, hrun, hended, _, _, rfl, ?_, ⟨_, rfl⟩, hW, hsame.mono (by decide) (by decide)⟩
        · skip
          refine XS.icmpNo X0.here hx rfl (hb hby at_38) rfl (teq hc16).2 ?_
          show Steps p.tables e below (s₁.setTop (mkF m 41 #[.val (.int x0), .val (.int ((x0 &&& (2147483647 : Int32)) % (5 : Int32))), .unset, .unset] [])) _
          refine st17 _ ?_
          show Steps p.tables e below (T17.setTop (mkF m 44 #[.val (.int x0), .val (.int ((x0 &&& (2147483647 : Int32)) % (5 : Int32))), .unset, .unset] [(.ref b2)])) _
          refine XS.astoreN X17.here hx rfl (hb hby at_44) rfl rfl (l' := #[.val (.int x0), .val (.int ((x0 &&& (2147483647 : Int32)) % (5 : Int32))), .val (.ref b2), .unset]) rfl ?_
          show Steps p.tables e below (T17.setTop (mkF m 45 #[.val (.int x0), .val (.int ((x0 &&& (2147483647 : Int32)) % (5 : Int32))), .val (.ref b2), .unset] [])) _
          refine XS.bipush X17.here hx rfl (hb hby at_45) ?_
          show Steps p.tables e below (T17.setTop (mkF m 47 #[.val (.int x0), .val (.int ((x0 &&& (2147483647 : Int32)) % (5 : Int32))), .val (.ref b2), .unset] [(.int (100 : Int32))])) _
          refine XS.istoreN X17.here hx rfl (hb hby at_47) rfl (l' := #[.val (.int x0), .val (.int ((x0 &&& (2147483647 : Int32)) % (5 : Int32))), .val (.ref b2), .val (.int (100 : Int32))]) rfl ?_
          show Steps p.tables e below (T17.setTop (mkF m 48 #[.val (.int x0), .val (.int ((x0 &&& (2147483647 : Int32)) % (5 : Int32))), .val (.ref b2), .val (.int (100 : Int32))] [])) _
          refine XS.goto X17.here hx rfl (pc0 := 48) (pc' := 73) rfl (hb hby at_48) (by decide) (by decide) ?_
          show Steps p.tables e below (T17.setTop (mkF m 73 #[.val (.int x0), .val (.int ((x0 &&& (2147483647 : Int32)) % (5 : Int32))), .val (.ref b2), .val (.int (100 : Int32))] [])) _
          refine XS.aloadN X17.here hx rfl (hb hby at_73) rfl rfl ?_
          show Steps p.tables e below (T17.setTop (mkF m 74 #[.val (.int x0), .val (.int ((x0 &&& (2147483647 : Int32)) % (5 : Int32))), .val (.ref b2), .val (.int (100 : Int32))] [(.ref b2)])) _
          refine st18.trans ?_
          show Steps p.tables e below (T18.setTop (mkF m 77 #[.val (.int x0), .val (.int ((x0 &&& (2147483647 : Int32)) % (5 : Int32))), .val (.ref b2), .val (.int (100 : Int32))] [(.int (100 : Int32))])) _
          refine XS.iloadN X18.here hx rfl (hb hby at_77) rfl ?_
          show Steps p.tables e below (T18.setTop (mkF m 78 #[.val (.int x0), .val (.int ((x0 &&& (2147483647 : Int32)) % (5 : Int32))), .val (.ref b2), .val (.int (100 : Int32))] [(.int (100 : Int32)), (.int (100 : Int32))])) _
          refine XS.icmpNo X18.here hx rfl (hb hby at_78) rfl (teq (by decide : (100 : Int32) = (100 : Int32))).2 ?_
          show Steps p.tables e below (T18.setTop (mkF m 81 #[.val (.int x0), .val (.int ((x0 &&& (2147483647 : Int32)) % (5 : Int32))), .val (.ref b2), .val (.int (100 : Int32))] [])) _
          refine XS.iconst X18.here hx rfl (hb hby at_81) ?_
          show Steps p.tables e below (T18.setTop (mkF m 82 #[.val (.int x0), .val (.int ((x0 &&& (2147483647 : Int32)) % (5 : Int32))), .val (.ref b2), .val (.int (100 : Int32))] [(.int (1 : Int32))])) _
          refine XS.goto X18.here hx rfl (pc0 := 82) (pc' := 86) rfl (hb hby at_82) (by decide) (by decide) ?_
          show Steps p.tables e below (T18.setTop (mkF m 86 #[.val (.int x0), .val (.int ((x0 &&& (2147483647 : Int32)) % (5 : Int32))), .val (.ref b2), .val (.int (100 : Int32))] [(.int (1 : Int32))])) _
          exact retN X18 hx (t := .boolean) Bd.returns (by simp) (hb hby at_86) hr
        · show Q_0 Z x0 b0 b1 b2 b3 b4 h0 n0 _ T18.heap _
          rw [e18q]
          exact ⟨rfl, N18⟩
      · skip
        have pw19 : ∀ t, Steps p.tables e below (s₁.setTop (mkF m 53 #[.val (.int x0), .val (.int ((x0 &&& (2147483647 : Int32)) % (5 : Int32))), .unset, .unset] [(.int (3 : Int32)), (.int ((x0 &&& (2147483647 : Int32)) % (5 : Int32)))])) t → Steps p.tables e below (s₁.setTop (entryFrame m #[(.int x0)] maxLocals)) t := by
          intro t k
          refine pw15 t ?_
          refine XS.icmpYes X0.here hx rfl (pc0 := 38) (pc' := 51) rfl (hb hby at_38) rfl (feq hc16).2 (by decide) (by decide) ?_
          show Steps p.tables e below (s₁.setTop (mkF m 51 #[.val (.int x0), .val (.int ((x0 &&& (2147483647 : Int32)) % (5 : Int32))), .unset, .unset] [])) _
          refine XS.iloadN X0.here hx rfl (hb hby at_51) rfl ?_
          show Steps p.tables e below (s₁.setTop (mkF m 52 #[.val (.int x0), .val (.int ((x0 &&& (2147483647 : Int32)) % (5 : Int32))), .unset, .unset] [(.int ((x0 &&& (2147483647 : Int32)) % (5 : Int32)))])) _
          refine XS.iconst X0.here hx rfl (hb hby at_52) ?_
          show Steps p.tables e below (s₁.setTop (mkF m 53 #[.val (.int x0), .val (.int ((x0 &&& (2147483647 : Int32)) % (5 : Int32))), .unset, .unset] [(.int (3 : Int32)), (.int ((x0 &&& (2147483647 : Int32)) % (5 : Int32)))])) _
          exact k
        by_cases hc20 : ((x0 &&& (2147483647 : Int32)) % (5 : Int32)) = (3 : Int32)
        · skip
          obtain ⟨T21, X21, e21, st21⟩ := getS2 X0 hx hZ hown (host := "") (Or.inl (hw _ (List.mem_of_getElem? (i := 18) rfl))) Via.refl e0 S_b3 (g := (mkF m 56 #[.val (.int x0), .val (.int ((x0 &&& (2147483647 : Int32)) % (5 : Int32))), .unset, .unset] [])) rfl (hb hby at_56)
          obtain ⟨cq22, kq22, q22a, q22b, q22c⟩ := isOf hZ e21 E_b3
          obtain ⟨_, _, ⟨T22, L22, k22, n22⟩, -, X22, ⟨Lc22, hQ22, l22, y22, z22⟩, st22⟩ := X21.virtualBack hx (y := (⟨"com/example/brisk_tune/brisktune/music/Model", "maxUploadTitle", "()I"⟩ : MethodName)) (z := (⟨"com/example/brisk_tune/brisktune/music/Model", "maxUploadTitle", "()I"⟩ : MethodName)) hown (mvT hZ (hw _ (List.mem_of_getElem? (i := 4) rfl))) (mvT hZ (hw _ (List.mem_of_getElem? (i := 5) rfl))) (notFace_of_selects (args := #[]) (mvT hZ (hw _ (List.mem_of_getElem? (i := 7) rfl)))) (mvT hZ (hw _ (List.mem_of_getElem? (i := 7) rfl))) (mvT hZ (hw _ (List.mem_of_getElem? (i := 6) rfl))) (by decide) (backOf (W := 0) (rm_1_3 l Z a0 hw [] b3 h0 n0 Z0 E_b3 F_b3) hZ (hw _ (List.mem_of_getElem? (i := 8) rfl)) (hw _ (List.mem_of_getElem? (i := 2) rfl)) (by decide) (by decide)) q22a q22c (g := (mkF m 74 #[.val (.int x0), .val (.int ((x0 &&& (2147483647 : Int32)) % (5 : Int32))), .val (.ref b3), .val (.int (100 : Int32))] [(.ref b3)])) rfl (by rw [hml]; rfl) (Steps.refl _) (argsL := []) (rest := []) (lenOf pd___I rfl) rfl (by show 2 * 0 + _ ≤ _; exact Nat.le_of_eq rfl) (hb hby at_74) (fun _ _ => ⟨rfl, e21, (by decide : 0 + 0 ≤ _), (by decide : 0 + 0 ≤ _)⟩)
          dsimp only [Pt.U, Pt.locs, Pt.cells, Pt.slots] at X22 l22 y22 z22 st22 hQ22
          subst l22 y22 z22
          obtain ⟨rfl, N22q, e22q⟩ := hQ22
          have N22 := Fr.app N0 N22q
          obtain ⟨fs, hr, hrun, hended, hW, hsame⟩ := X22.leave (v := some (.int (1 : Int32))) (fun h => by rw [Bd.returns] at h; cases h)
          refine ⟨_, _, pw19 _ ?_, hrun, hended, _, _, rfl, ?_, ⟨_, rfl⟩, hW, hsame.mono (by decide) (by decide)⟩
          · skip
            refine XS.icmpNo X0.here hx rfl (hb hby at_53) rfl (teq hc20).2 ?_
            show Steps p.tables e below (s₁.setTop (mkF m 56 #[.val (.int x0), .val (.int ((x0 &&& (2147483647 : Int32)) % (5 : Int32))), .unset, .unset] [])) _
            refine st21 _ ?_
            show Steps p.tables e below (T21.setTop (mkF m 59 #[.val (.int x0), .val (.int ((x0 &&& (2147483647 : Int32)) % (5 : Int32))), .unset, .unset] [(.ref b3)])) _
            refine XS.astoreN X21.here hx rfl (hb hby at_59) rfl rfl (l' := #[.val (.int x0), .val (.int ((x0 &&& (2147483647 : Int32)) % (5 : Int32))), .val (.ref b3), .unset]) rfl ?_
            show Steps p.tables e below (T21.setTop (mkF m 60 #[.val (.int x0), .val (.int ((x0 &&& (2147483647 : Int32)) % (5 : Int32))), .val (.ref b3), .unset] [])) _
            refine XS.bipush X21.here hx rfl (hb hby at_60) ?_
            show Steps p.tables e below (T21.setTop (mkF m 62 #[.val (.int x0), .val (.int ((x0 &&& (2147483647 : Int32)) % (5 : Int32))), .val (.ref b3), .unset] [(.int (100 : Int32))])) _
            refine XS.istoreN X21.here hx rfl (hb hby at_62) rfl (l' := #[.val (.int x0), .val (.int ((x0 &&& (2147483647 : Int32)) % (5 : Int32))), .val (.ref b3), .val (.int (100 : Int32))]) rfl ?_
            show Steps p.tables e below (T21.setTop (mkF m 63 #[.val (.int x0), .val (.int ((x0 &&& (2147483647 : Int32)) % (5 : Int32))), .val (.ref b3), .val (.int (100 : Int32))] [])) _
            refine XS.goto X21.here hx rfl (pc0 := 63) (pc' := 73) rfl (hb hby at_63) (by decide) (by decide) ?_
            show Steps p.tables e below (T21.setTop (mkF m 73 #[.val (.int x0), .val (.int ((x0 &&& (2147483647 : Int32)) % (5 : Int32))), .val (.ref b3), .val (.int (100 : Int32))] [])) _
            refine XS.aloadN X21.here hx rfl (hb hby at_73) rfl rfl ?_
            show Steps p.tables e below (T21.setTop (mkF m 74 #[.val (.int x0), .val (.int ((x0 &&& (2147483647 : Int32)) % (5 : Int32))), .val (.ref b3), .val (.int (100 : Int32))] [(.ref b3)])) _
            refine st22.trans ?_
            show Steps p.tables e below (T22.setTop (mkF m 77 #[.val (.int x0), .val (.int ((x0 &&& (2147483647 : Int32)) % (5 : Int32))), .val (.ref b3), .val (.int (100 : Int32))] [(.int (100 : Int32))])) _
            refine XS.iloadN X22.here hx rfl (hb hby at_77) rfl ?_
            show Steps p.tables e below (T22.setTop (mkF m 78 #[.val (.int x0), .val (.int ((x0 &&& (2147483647 : Int32)) % (5 : Int32))), .val (.ref b3), .val (.int (100 : Int32))] [(.int (100 : Int32)), (.int (100 : Int32))])) _
            refine XS.icmpNo X22.here hx rfl (hb hby at_78) rfl (teq (by decide : (100 : Int32) = (100 : Int32))).2 ?_
            show Steps p.tables e below (T22.setTop (mkF m 81 #[.val (.int x0), .val (.int ((x0 &&& (2147483647 : Int32)) % (5 : Int32))), .val (.ref b3), .val (.int (100 : Int32))] [])) _
            refine XS.iconst X22.here hx rfl (hb hby at_81) ?_
            show Steps p.tables e below (T22.setTop (mkF m 82 #[.val (.int x0), .val (.int ((x0 &&& (2147483647 : Int32)) % (5 : Int32))), .val (.ref b3), .val (.int (100 : Int32))] [(.int (1 : Int32))])) _
            refine XS.goto X22.here hx rfl (pc0 := 82) (pc' := 86) rfl (hb hby at_82) (by decide) (by decide) ?_
            show Steps p.tables e below (T22.setTop (mkF m 86 #[.val (.int x0), .val (.int ((x0 &&& (2147483647 : Int32)) % (5 : Int32))), .val (.ref b3), .val (.int (100 : Int32))] [(.int (1 : Int32))])) _
            exact retN X22 hx (t := .boolean) Bd.returns (by simp) (hb hby at_86) hr
          · show Q_0 Z x0 b0 b1 b2 b3 b4 h0 n0 _ T22.heap _
            rw [e22q]
            exact ⟨rfl, N22⟩
        · skip
          obtain ⟨T23, X23, e23, st23⟩ := getS2 X0 hx hZ hown (host := "") (Or.inl (hw _ (List.mem_of_getElem? (i := 22) rfl))) Via.refl e0 S_b4 (g := (mkF m 66 #[.val (.int x0), .val (.int ((x0 &&& (2147483647 : Int32)) % (5 : Int32))), .unset, .unset] [])) rfl (hb hby at_66)
          obtain ⟨cq24, kq24, q24a, q24b, q24c⟩ := isOf hZ e23 E_b4
          obtain ⟨_, _, ⟨T24, L24, k24, n24⟩, -, X24, ⟨Lc24, hQ24, l24, y24, z24⟩, st24⟩ := X23.virtualBack hx (y := (⟨"com/example/brisk_tune/brisktune/music/Model", "maxUploadTitle", "()I"⟩ : MethodName)) (z := (⟨"com/example/brisk_tune/brisktune/music/Model", "maxUploadTitle", "()I"⟩ : MethodName)) hown (mvT hZ (hw _ (List.mem_of_getElem? (i := 4) rfl))) (mvT hZ (hw _ (List.mem_of_getElem? (i := 5) rfl))) (notFace_of_selects (args := #[]) (mvT hZ (hw _ (List.mem_of_getElem? (i := 7) rfl)))) (mvT hZ (hw _ (List.mem_of_getElem? (i := 7) rfl))) (mvT hZ (hw _ (List.mem_of_getElem? (i := 6) rfl))) (by decide) (backOf (W := 0) (rm_1_4 l Z a0 hw [] b4 h0 n0 Z0 E_b4 F_b4) hZ (hw _ (List.mem_of_getElem? (i := 8) rfl)) (hw _ (List.mem_of_getElem? (i := 2) rfl)) (by decide) (by decide)) q24a q24c (g := (mkF m 74 #[.val (.int x0), .val (.int ((x0 &&& (2147483647 : Int32)) % (5 : Int32))), .val (.ref b4), .val (.int (100 : Int32))] [(.ref b4)])) rfl (by rw [hml]; rfl) (Steps.refl _) (argsL := []) (rest := []) (lenOf pd___I rfl) rfl (by show 2 * 0 + _ ≤ _; exact Nat.le_of_eq rfl) (hb hby at_74) (fun _ _ => ⟨rfl, e23, (by decide : 0 + 0 ≤ _), (by decide : 0 + 0 ≤ _)⟩)
          dsimp only [Pt.U, Pt.locs, Pt.cells, Pt.slots] at X24 l24 y24 z24 st24 hQ24
          subst l24 y24 z24
          obtain ⟨rfl, N24q, e24q⟩ := hQ24
          have N24 := Fr.app N0 N24q
          obtain ⟨fs, hr, hrun, hended, hW, hsame⟩ := X24.leave (v := some (.int (1 : Int32))) (fun h => by rw [Bd.returns] at h; cases h)
          refine ⟨_, _, pw19 _ ?_, hrun, hended, _, _, rfl, ?_, ⟨_, rfl⟩, hW, hsame.mono (by decide) (by decide)⟩
          · skip
            refine XS.icmpYes X0.here hx rfl (pc0 := 53) (pc' := 66) rfl (hb hby at_53) rfl (feq hc20).2 (by decide) (by decide) ?_
            show Steps p.tables e below (s₁.setTop (mkF m 66 #[.val (.int x0), .val (.int ((x0 &&& (2147483647 : Int32)) % (5 : Int32))), .unset, .unset] [])) _
            refine st23 _ ?_
            show Steps p.tables e below (T23.setTop (mkF m 69 #[.val (.int x0), .val (.int ((x0 &&& (2147483647 : Int32)) % (5 : Int32))), .unset, .unset] [(.ref b4)])) _
            refine XS.astoreN X23.here hx rfl (hb hby at_69) rfl rfl (l' := #[.val (.int x0), .val (.int ((x0 &&& (2147483647 : Int32)) % (5 : Int32))), .val (.ref b4), .unset]) rfl ?_
            show Steps p.tables e below (T23.setTop (mkF m 70 #[.val (.int x0), .val (.int ((x0 &&& (2147483647 : Int32)) % (5 : Int32))), .val (.ref b4), .unset] [])) _
            refine XS.bipush X23.here hx rfl (hb hby at_70) ?_
            show Steps p.tables e below (T23.setTop (mkF m 72 #[.val (.int x0), .val (.int ((x0 &&& (2147483647 : Int32)) % (5 : Int32))), .val (.ref b4), .unset] [(.int (100 : Int32))])) _
            refine XS.istoreN X23.here hx rfl (hb hby at_72) rfl (l' := #[.val (.int x0), .val (.int ((x0 &&& (2147483647 : Int32)) % (5 : Int32))), .val (.ref b4), .val (.int (100 : Int32))]) rfl ?_
            show Steps p.tables e below (T23.setTop (mkF m 73 #[.val (.int x0), .val (.int ((x0 &&& (2147483647 : Int32)) % (5 : Int32))), .val (.ref b4), .val (.int (100 : Int32))] [])) _
            refine XS.aloadN X23.here hx rfl (hb hby at_73) rfl rfl ?_
            show Steps p.tables e below (T23.setTop (mkF m 74 #[.val (.int x0), .val (.int ((x0 &&& (2147483647 : Int32)) % (5 : Int32))), .val (.ref b4), .val (.int (100 : Int32))] [(.ref b4)])) _
            refine st24.trans ?_
            show Steps p.tables e below (T24.setTop (mkF m 77 #[.val (.int x0), .val (.int ((x0 &&& (2147483647 : Int32)) % (5 : Int32))), .val (.ref b4), .val (.int (100 : Int32))] [(.int (100 : Int32))])) _
            refine XS.iloadN X24.here hx rfl (hb hby at_77) rfl ?_
            show Steps p.tables e below (T24.setTop (mkF m 78 #[.val (.int x0), .val (.int ((x0 &&& (2147483647 : Int32)) % (5 : Int32))), .val (.ref b4), .val (.int (100 : Int32))] [(.int (100 : Int32)), (.int (100 : Int32))])) _
            refine XS.icmpNo X24.here hx rfl (hb hby at_78) rfl (teq (by decide : (100 : Int32) = (100 : Int32))).2 ?_
            show Steps p.tables e below (T24.setTop (mkF m 81 #[.val (.int x0), .val (.int ((x0 &&& (2147483647 : Int32)) % (5 : Int32))), .val (.ref b4), .val (.int (100 : Int32))] [])) _
            refine XS.iconst X24.here hx rfl (hb hby at_81) ?_
            show Steps p.tables e below (T24.setTop (mkF m 82 #[.val (.int x0), .val (.int ((x0 &&& (2147483647 : Int32)) % (5 : Int32))), .val (.ref b4), .val (.int (100 : Int32))] [(.int (1 : Int32))])) _
            refine XS.goto X24.here hx rfl (pc0 := 82) (pc' := 86) rfl (hb hby at_82) (by decide) (by decide) ?_
            show Steps p.tables e below (T24.setTop (mkF m 86 #[.val (.int x0), .val (.int ((x0 &&& (2147483647 : Int32)) % (5 : Int32))), .val (.ref b4), .val (.int (100 : Int32))] [(.int (1 : Int32))])) _
            exact retN X24 hx (t := .boolean) Bd.returns (by simp) (hb hby at_86) hr
          · show Q_0 Z x0 b0 b1 b2 b3 b4 h0 n0 _ T24.heap _
            rw [e24q]
            exact ⟨rfl, N24⟩
set_option maxRecDepth 65536 in
set_option maxHeartbeats 40000000 in
theorem comes_1 {Post : Tables → Env → Array Value → State → Outcome → State → Prop} (hpost : ∀ tb e args s v u, (limb_1_1.after args s (.returned v) u = true ∧ limb_1_2.after args s (.returned v) u = true ∧ True) → FrameEnd s (.returned v) u (Jvm.fieldLocs frame_1_writes args s ++ Jvm.arrayLocs frame_1_arrays args s ++ Jvm.staticLocs frame_1_statics s) 0 0 → Post tb e args s (.returned v) u) :
    ArmFor flags0 classFile x code maxLocals ret World_1 tables_1 room_1 Calls_1 rest_1 Pre_1 Post := by
  intro l hfl _ _ p e ha hc hk s m args below hf hA hF happ hP
  obtain ⟨hcalls, hrest, hpre⟩ := hP
  obtain ⟨-, -, -, hnamed, -, -, -, hat⟩ := (Spec.applies_iff hf).mp happ
  obtain ⟨hg, hn⟩ := and_e (Cond.before_iff.mp (show (Jvm.Cond.and given_1 narrow_1).before args s = true from hpre))
  obtain ⟨g25, g26⟩ := and_e hg
  obtain ⟨w0, rfl⟩ : ∃ w0 : Value, args = #[w0] := by
    have hs : args.size = 1 := by simpa [Cond.value, given_1] using g25
    obtain ⟨L⟩ := args
    match L, hs with
    | [w0], _ => exact ⟨w0, rfl⟩
  have hw := fun d (hd : d ∈ tables_1) => atoms_spec (ws := Jvm.Cond.code x code maxLocals ret :: tables_1) hat d (List.mem_cons_of_mem _ hd)
  have hfit : Fit s := fun {y c} hc i hi => by
    obtain ⟨ha, rfl⟩ := Array.getElem?_eq_some_iff.mp hc
    have q := List.all_eq_true.mp ((Array.all_eq_true_iff_forall_mem.mp hF) _ (Array.getElem_mem ha)) i (List.mem_range.mpr hi)
    simpa [Array.getElem?_eq_getElem hi] using q
  obtain ⟨x0, ei0⟩ := is_v g26
  obtain rfl : w0 = (.int x0) := Option.some.inj ei0
  obtain ⟨g27, g28⟩ := and_e hn
  obtain ⟨g29, g30⟩ := and_e g28
  obtain ⟨g31, g32⟩ := and_e g30
  obtain ⟨g33, g34⟩ := and_e g32
  obtain ⟨g35, g36⟩ := and_e g34
  obtain ⟨g37, g38⟩ := and_e g36
  obtain ⟨g39, g40⟩ := and_e g38
  obtain ⟨g41, g42⟩ := and_e g40
  obtain ⟨g43, g44⟩ := and_e g42
  obtain ⟨a_V3_5, ev_a_V3_5⟩ := exa_v g27
  have E_a_V3_5 : Exa s s.heap a_V3_5 "com/example/brisk_tune/brisktune/music/Model" := Exa.start ev_a_V3_5 g27
  have S_a_V3_5 : Sta s s.heap "com/example/brisk_tune/brisktune/music/Model" "V3_5" "Lcom/example/brisk_tune/brisktune/music/Model;" (.ref a_V3_5) := Sta.start ev_a_V3_5 (Or.inr ⟨(hw _ (List.mem_of_getElem? (i := 2) rfl)), (hw _ (List.mem_of_getElem? (i := 3) rfl))⟩)
  obtain ⟨a_V4_5PLUS, ev_a_V4_5PLUS⟩ := exa_v g31
  have E_a_V4_5PLUS : Exa s s.heap a_V4_5PLUS "com/example/brisk_tune/brisktune/music/Model" := Exa.start ev_a_V4_5PLUS g31
  have S_a_V4_5PLUS : Sta s s.heap "com/example/brisk_tune/brisktune/music/Model" "V4_5PLUS" "Lcom/example/brisk_tune/brisktune/music/Model;" (.ref a_V4_5PLUS) := Sta.start ev_a_V4_5PLUS (Or.inr ⟨(hw _ (List.mem_of_getElem? (i := 2) rfl)), (hw _ (List.mem_of_getElem? (i := 19) rfl))⟩)
  obtain ⟨a_V4, ev_a_V4⟩ := exa_v g35
  have E_a_V4 : Exa s s.heap a_V4 "com/example/brisk_tune/brisktune/music/Model" := Exa.start ev_a_V4 g35
  have S_a_V4 : Sta s s.heap "com/example/brisk_tune/brisktune/music/Model" "V4" "Lcom/example/brisk_tune/brisktune/music/Model;" (.ref a_V4) := Sta.start ev_a_V4 (Or.inr ⟨(hw _ (List.mem_of_getElem? (i := 2) rfl)), (hw _ (List.mem_of_getElem? (i := 21) rfl))⟩)
  obtain ⟨a_V5, ev_a_V5⟩ := exa_v g39
  have E_a_V5 : Exa s s.heap a_V5 "com/example/brisk_tune/brisktune/music/Model" := Exa.start ev_a_V5 g39
  have S_a_V5 : Sta s s.heap "com/example/brisk_tune/brisktune/music/Model" "V5" "Lcom/example/brisk_tune/brisktune/music/Model;" (.ref a_V5) := Sta.start ev_a_V5 (Or.inr ⟨(hw _ (List.mem_of_getElem? (i := 2) rfl)), (hw _ (List.mem_of_getElem? (i := 23) rfl))⟩)
  obtain ⟨a_V4_5, ev_a_V4_5⟩ := exa_v g43
  have E_a_V4_5 : Exa s s.heap a_V4_5 "com/example/brisk_tune/brisktune/music/Model" := Exa.start ev_a_V4_5 g43
  have S_a_V4_5 : Sta s s.heap "com/example/brisk_tune/brisktune/music/Model" "V4_5" "Lcom/example/brisk_tune/brisktune/music/Model;" (.ref a_V4_5) := Sta.start ev_a_V4_5 (Or.inr ⟨(hw _ (List.mem_of_getElem? (i := 2) rfl)), (hw _ (List.mem_of_getElem? (i := 25) rfl))⟩)
  have O_a_V3_5 : Fld s s.heap a_V3_5 "java/lang/Enum" "ordinal" "I" (.int (0 : Int32)) := own_fldI ev_a_V3_5 g29
  have O_a_V4_5PLUS : Fld s s.heap a_V4_5PLUS "java/lang/Enum" "ordinal" "I" (.int (3 : Int32)) := own_fldI ev_a_V4_5PLUS g33
  have O_a_V4 : Fld s s.heap a_V4 "java/lang/Enum" "ordinal" "I" (.int (1 : Int32)) := own_fldI ev_a_V4 g37
  have O_a_V5 : Fld s s.heap a_V5 "java/lang/Enum" "ordinal" "I" (.int (4 : Int32)) := own_fldI ev_a_V5 g41
  have O_a_V4_5 : Fld s s.heap a_V4_5 "java/lang/Enum" "ordinal" "I" (.int (2 : Int32)) := own_fldI ev_a_V4_5 g44
  obtain ⟨n, o, h1, h2, h3, _, L, rfl, ⟨rfl, N⟩, hq⟩ := rm_0 l s _ hw tables_1 x0 a_V3_5 a_V4 a_V4_5 a_V4_5PLUS a_V5 s.heap s.heap.size (Nat.le_refl _) S_a_V3_5 S_a_V4 S_a_V4_5 S_a_V4_5PLUS S_a_V5 E_a_V3_5 E_a_V4 E_a_V4_5 E_a_V4_5PLUS E_a_V5 O_a_V3_5 O_a_V4 O_a_V4_5 O_a_V4_5PLUS O_a_V5 p e ha hc hk s m _ below hf ((Spec.applies_iff_loose hf).mp happ).1 ⟨rfl, State.Warmed39.refl s, rfl⟩ trivial
  refine ⟨n, _, h1, h2, h3, hpost _ _ _ _ _ _ ⟨Cond.after_iff.mpr rfl, Cond.after_iff.mpr (eq_i res_at (Term.int_eval (1)) rfl), trivial⟩ ⟨hq.1, hq.2.1, (hq.2.2.sift fun y hy => Or.inr (N y hy)).mono (by decide) (by decide)⟩⟩
theorem main_1_1 : Claimed_1_1 := comes_1 fun _ _ _ _ _ _ h hF => ⟨h.1, hF⟩
theorem main_1_2 : Claimed_1_2 := comes_1 fun _ _ _ _ _ _ h hF => ⟨h.2.1, hF⟩
end Jvm.Pilot.@@N@@
namespace Jvm.Pilot.@@N@@
open Jvm Jvm.ClassFile Sem Op Lib Jvm.Free Jvm.Stand Jvm.Pilot.@@N@@.Jvm.D
/-! MADE BY PROGRAM (witnessworld.py) out of the Statement's table words and the real class files: 12 classes; the members and pool entries that the words name. The judged class is class 1, her method 1. -/
namespace start1
open Jvm.ClassFile
def u (s : String) : CpInfo := .utf8 (stringToUtf16 s)
/-- a pool by its gaps: so many unusable entries, then the entry; so many at the end -/
def gap : Nat → List CpInfo → List CpInfo
  | 0, r => r
  | n + 1, r => .unusable :: gap n r
def poolList (es : List (Nat × CpInfo)) (last : Nat) : List CpInfo := es.foldr (fun e r => gap e.1 (e.2 :: r)) (gap last [])
def pool (es : List (Nat × CpInfo)) (last : Nat) : Array CpInfo := ⟨poolList es last⟩
def fileOf (pool : Array CpInfo) (this : Nat) (attrs : Array Attribute := #[]) (ms : Array MethodInfo := #[]) (fl : Nat := 33) (sup : Nat := 0) (ifs : Array Nat := #[]) (fds : Array FieldInfo := #[]) : ClassFile where
  minorVersion := 0
  majorVersion := 65
  constantPool := pool
  accessFlags := fl
  thisClass := this
  superClass := sup
  interfaces := ifs
  fields := fds
  methods := ms
  attributes := attrs
def plain (name : String) (sup : Option ClassId) : Class where
  name := name
  kind := .ordinary
  loader := none
  accessFlags := 33
  super := sup
  interfaces := #[]
  cf := none
  fields := #[]
  methods := #[]
  instanceTypes := #[]
  staticTypes := #[]
  resolved := #[]
  callSites := []
  init := .initialized
  statics := none
  mirror := none

def pool0 : Array CpInfo := pool [(5, u "<init>"), (0, u "()V"), (1, .class_ 10), (1, u "java/lang/Object")] 113

def k0m0 : Method := { name := "<init>", desc := "()V", sig := { parameters := [], returnType := none }, accessFlags := 1, code := none }
/-- java/lang/Object -/
def k0 : Class := { plain "java/lang/Object" none with
  accessFlags := 33
  interfaces := #[]
  cf := some (fileOf pool0 8 #[] #[{ accessFlags := 1, nameIndex := 5, descriptorIndex := 6, attributes := #[] }] 33 0 #[] #[])
  fields := #[]
  methods := #[k0m0]
  instanceTypes := #[]
  staticTypes := #[]
  resolved := Array.replicate 124 none
  statics := none }

def pool1 : Array CpInfo := pool [(2, .class_ 4), (1, u "java/lang/Object"), (0, u "<init>"), (0, u "()V"), (0, .integer 2147483647), (0, .fieldref 9 10), (0, .class_ 11), (0, .nameAndType 12 13), (0, u "com/example/brisk_tune/brisktune/music/Model"), (0, u "V3_5"), (0, u "Lcom/example/brisk_tune/brisktune/music/Model;"), (0, .fieldref 9 15), (0, .nameAndType 16 13), (0, u "V4"), (0, .fieldref 9 18), (0, .nameAndType 19 13), (0, u "V4_5"), (0, .fieldref 9 21), (0, .nameAndType 22 13), (0, u "V4_5PLUS"), (0, .fieldref 9 24), (0, .nameAndType 25 13), (0, u "V5"), (0, .methodref 9 27), (0, .nameAndType 28 29), (0, u "maxUploadTitle"), (0, u "()I"), (0, .class_ 31), (0, u "com/example/brisk_tune/brisktune/music/ModelMaxUploadTitlePinLaw"), (2, u "law"), (0, u "(I)Z")] 3

def k1m0 : Method := { name := "<init>", desc := "()V", sig := { parameters := [], returnType := none }, accessFlags := 1, code := none }
def k1c1 : Code := { maxStack := 2, maxLocals := 4, code := code, exceptionTable := #[], attributes := #[] }
def k1m1 : Method := { name := "law", desc := "(I)Z", sig := { parameters := [.int], returnType := some .boolean }, accessFlags := 9, code := some k1c1 }
/-- com/example/brisk_tune/brisktune/music/ModelMaxUploadTitlePinLaw -/
def k1 : Class := { plain "com/example/brisk_tune/brisktune/music/ModelMaxUploadTitlePinLaw" (some 0) with
  accessFlags := 49
  interfaces := #[]
  cf := some (fileOf pool1 30 #[] #[{ accessFlags := 1, nameIndex := 5, descriptorIndex := 6, attributes := #[] }, { accessFlags := 9, nameIndex := 34, descriptorIndex := 35, attributes := #[] }] 49 2 #[] #[])
  fields := #[]
  methods := #[k1m0, k1m1]
  instanceTypes := #[]
  staticTypes := #[]
  resolved := Array.replicate 39 none
  statics := none }

def pool2 : Array CpInfo := pool [(1, .class_ 2), (0, u "java/lang/constant/Constable"), (0, .class_ 4), (0, u "java/lang/Object")] 6

/-- java/lang/constant/Constable -/
def k2 : Class := { plain "java/lang/constant/Constable" (some 0) with
  accessFlags := 1537
  interfaces := #[]
  cf := some (fileOf pool2 1 #[] #[] 1537 3 #[] #[])
  fields := #[]
  methods := #[]
  instanceTypes := #[]
  staticTypes := #[]
  resolved := Array.replicate 11 none
  statics := none }

def pool3 : Array CpInfo := pool [(1, .class_ 2), (0, u "java/lang/Comparable"), (0, .class_ 4), (0, u "java/lang/Object")] 7

/-- java/lang/Comparable -/
def k3 : Class := { plain "java/lang/Comparable" (some 0) with
  accessFlags := 1537
  interfaces := #[]
  cf := some (fileOf pool3 1 #[] #[] 1537 3 #[] #[])
  fields := #[]
  methods := #[]
  instanceTypes := #[]
  staticTypes := #[]
  resolved := Array.replicate 12 none
  statics := none }

def pool4 : Array CpInfo := pool [(1, .class_ 2), (0, u "java/io/Serializable"), (0, .class_ 4), (0, u "java/lang/Object")] 2

/-- java/io/Serializable -/
def k4 : Class := { plain "java/io/Serializable" (some 0) with
  accessFlags := 1537
  interfaces := #[]
  cf := some (fileOf pool4 1 #[] #[] 1537 3 #[] #[])
  fields := #[]
  methods := #[]
  instanceTypes := #[]
  staticTypes := #[]
  resolved := Array.replicate 7 none
  statics := none }

def pool5 : Array CpInfo := pool [(2, .class_ 4), (1, u "java/lang/Enum"), (0, u "name"), (0, u "Ljava/lang/String;"), (0, .fieldref 2 8), (0, .nameAndType 9 10), (0, u "ordinal"), (0, u "I"), (1, .class_ 14), (1, u "java/lang/Object"), (4, u "hash"), (86, .class_ 108), (1, u "java/lang/Enum$EnumDesc"), (2, .class_ 112), (0, u "java/lang/constant/Constable"), (0, .class_ 114), (0, u "java/lang/Comparable"), (0, .class_ 116), (0, u "java/io/Serializable"), (9, u "()I")] 77

def k5c0 : Code := { maxStack := 1, maxLocals := 1, code := jdk_37_method_2_code, exceptionTable := #[], attributes := #[] }
def k5m0 : Method := { name := "ordinal", desc := "()I", sig := { parameters := [], returnType := some .int }, accessFlags := 17, code := some k5c0 }
/-- java/lang/Enum -/
def k5 : Class := { plain "java/lang/Enum" (some 0) with
  accessFlags := 1057
  interfaces := #[2, 3, 4]
  cf := some (fileOf pool5 2 #[.nestMembers #[106]] #[{ accessFlags := 17, nameIndex := 9, descriptorIndex := 126, attributes := #[] }] 1057 12 #[111, 113, 115] #[{ accessFlags := 18, nameIndex := 5, descriptorIndex := 6, attributes := #[] }, { accessFlags := 18, nameIndex := 9, descriptorIndex := 10, attributes := #[] }, { accessFlags := 2, nameIndex := 19, descriptorIndex := 10, attributes := #[] }])
  fields := #[{ name := "name", type := (.object "java/lang/String"), accessFlags := 18, slot := 0, constantValue := 0 }, { name := "ordinal", type := .int, accessFlags := 18, slot := 1, constantValue := 0 }, { name := "hash", type := .int, accessFlags := 2, slot := 2, constantValue := 0 }]
  methods := #[k5m0]
  instanceTypes := #[(.object "java/lang/String"), .int, .int]
  staticTypes := #[]
  resolved := Array.replicate 204 none
  statics := none }

def pool6 : Array CpInfo := pool [(1, .class_ 2), (0, u "com/example/brisk_tune/brisktune/music/Model"), (2, u "V3_5"), (0, u "Lcom/example/brisk_tune/brisktune/music/Model;"), (2, u "V4"), (2, u "V4_5"), (2, u "V4_5PLUS"), (2, u "V5"), (2, u "$VALUES"), (0, u "[Lcom/example/brisk_tune/brisktune/music/Model;"), (6, .class_ 31), (1, u "java/lang/Enum"), (42, .methodref 1 75), (0, .nameAndType 76 77), (0, u "ordinal"), (0, u "()I"), (38, u "maxUploadTitle")] 32

def k6c0 : Code := { maxStack := 4, maxLocals := 1, code := prog_17_method_8_code, exceptionTable := #[], attributes := #[] }
def k6m0 : Method := { name := "maxUploadTitle", desc := "()I", sig := { parameters := [], returnType := some .int }, accessFlags := 1, code := some k6c0 }
/-- com/example/brisk_tune/brisktune/music/Model -/
def k6 : Class := { plain "com/example/brisk_tune/brisktune/music/Model" (some 5) with
  accessFlags := 16433
  interfaces := #[]
  cf := some (fileOf pool6 1 #[] #[{ accessFlags := 1, nameIndex := 116, descriptorIndex := 77, attributes := #[] }] 16433 29 #[] #[{ accessFlags := 16409, nameIndex := 5, descriptorIndex := 6, attributes := #[] }, { accessFlags := 16409, nameIndex := 9, descriptorIndex := 6, attributes := #[] }, { accessFlags := 16409, nameIndex := 12, descriptorIndex := 6, attributes := #[] }, { accessFlags := 16409, nameIndex := 15, descriptorIndex := 6, attributes := #[] }, { accessFlags := 16409, nameIndex := 18, descriptorIndex := 6, attributes := #[] }, { accessFlags := 4122, nameIndex := 21, descriptorIndex := 22, attributes := #[] }])
  fields := #[{ name := "V3_5", type := (.object "com/example/brisk_tune/brisktune/music/Model"), accessFlags := 16409, slot := 0, constantValue := 0 }, { name := "V4", type := (.object "com/example/brisk_tune/brisktune/music/Model"), accessFlags := 16409, slot := 1, constantValue := 0 }, { name := "V4_5", type := (.object "com/example/brisk_tune/brisktune/music/Model"), accessFlags := 16409, slot := 2, constantValue := 0 }, { name := "V4_5PLUS", type := (.object "com/example/brisk_tune/brisktune/music/Model"), accessFlags := 16409, slot := 3, constantValue := 0 }, { name := "V5", type := (.object "com/example/brisk_tune/brisktune/music/Model"), accessFlags := 16409, slot := 4, constantValue := 0 }, { name := "$VALUES", type := (.array (.object "com/example/brisk_tune/brisktune/music/Model")), accessFlags := 4122, slot := 5, constantValue := 0 }]
  methods := #[k6m0]
  instanceTypes := #[(.object "java/lang/String"), .int, .int]
  staticTypes := #[(.object "com/example/brisk_tune/brisktune/music/Model"), (.object "com/example/brisk_tune/brisktune/music/Model"), (.object "com/example/brisk_tune/brisktune/music/Model"), (.object "com/example/brisk_tune/brisktune/music/Model"), (.object "com/example/brisk_tune/brisktune/music/Model"), (.array (.object "com/example/brisk_tune/brisktune/music/Model"))]
  resolved := Array.replicate 149 none
  statics := some 0 }

def pool7 : Array CpInfo := pool [(1, u "java/lang/Cloneable"), (0, .class_ 1), (0, u "java/lang/Object"), (0, .class_ 3)] 3

/-- java/lang/Cloneable -/
def k7 : Class := { plain "java/lang/Cloneable" (some 0) with
  accessFlags := 1537
  interfaces := #[]
  cf := some (fileOf pool7 2 #[] #[] 1537 4 #[] #[])
  fields := #[]
  methods := #[]
  instanceTypes := #[]
  staticTypes := #[]
  resolved := Array.replicate 8 none
  statics := none }

/-- the primitive byte -/
def k8 : Class := { plain "byte" none with kind := .primitive 'B', accessFlags := 0x411 }
/-- [B -/
def k9 : Class := { plain "[B" (some 0) with kind := .array 8 .byte, interfaces := #[7, 4], accessFlags := 1041 }

/-- the primitive int -/
def k10 : Class := { plain "int" none with kind := .primitive 'I', accessFlags := 0x411 }
/-- [I -/
def k11 : Class := { plain "[I" (some 0) with kind := .array 10 .int, interfaces := #[7, 4], accessFlags := 1041 }

def heap : Heap := #[{ cls := 6, slots := #[.ref 1, .ref 3, .ref 5, .ref 2, .ref 4, .null], vm := .statics 6 },
  { cls := 6, slots := #[.null, .int 0, .int 0], vm := .none },
  { cls := 6, slots := #[.null, .int 3, .int 0], vm := .none },
  { cls := 6, slots := #[.null, .int 1, .int 0], vm := .none },
  { cls := 6, slots := #[.null, .int 4, .int 0], vm := .none },
  { cls := 6, slots := #[.null, .int 2, .int 0], vm := .none }]
def classes : Array Class := #[k0, k1, k2, k3, k4, k5, k6, k7, k8, k9, k10, k11]
def interned : List (Array UInt16 × Addr) := []
def slotsUsed : Nat := 21
def theMethod : MethodId := ⟨1, 1⟩
def args0 : Array Value := #[.int 5]
def aboutOver (below : List Frame) : State where
  vm := { classes := classes, interned := interned.toArray }
  heap := heap
  slotsUsed := slotsUsed
  threads := #[{ frames := .invoking theMethod args0 :: below }]
def below0 : List Frame := [.native { method := ⟨0, 0⟩, args := #[] }]
def about1 : State := aboutOver below0
def p0 : Program := .bare "" "" ""
def e0 : Env := launch0.env 0 0 0
theorem w_frames : about1.frames = Frame.invoking theMethod args0 :: below0 := rfl
set_option maxRecDepth 65536 in
theorem w_args : argsFit about1.vm theMethod args0 = true := by decide +kernel
set_option maxRecDepth 65536 in
theorem w_heap : heapFits about1 = true := by decide +kernel
set_option maxRecDepth 65536 in
theorem w_runnable : about1.curStatus? = some .runnable := by decide +kernel
set_option maxRecDepth 65536 in
theorem w_alone : about1.alone = true := by decide +kernel
set_option maxRecDepth 65536 in
theorem w_named : about1.methodNamed? x = some theMethod := by decide +kernel
set_option maxRecDepth 65536 in
theorem w_hears : about1.hears theMethod below0 = true := by decide +kernel
set_option maxRecDepth 65536 in
theorem w_ripe : about1.ripe theMethod args0 below0 = true := by decide +kernel
theorem w_running : about1.status = .running := rfl
set_option maxRecDepth 65536 in
theorem w_room : about1.hasRoom e0.platform room_1 = true :=
  launch0.hasRoom_least _ room_1 (by decide +kernel) (by decide +kernel) (by decide +kernel) (by decide +kernel) (by decide +kernel) (by decide +kernel)
theorem allAtoms_all (ts : List Jvm.Cond) (a : Array Jvm.Value) (st : Jvm.State) : (allAtoms ts).before a st = ts.all (fun c => c.before a st) := by
  induction ts with
  | nil => rfl
  | cons c t ih =>
    show (Jvm.Cond.and c (allAtoms t)).before a st = _
    rw [Jvm.Cond.before_and, ih, List.all_cons]
def words1 : List Jvm.Cond := Jvm.Cond.code x code maxLocals ret :: tables_1
/-- a 'code' word, met by the world's own term for the bytes: nothing is compared byte by byte -/
theorem code_word {y : MethodName} {bytes : ByteArray} {mx : Nat} {rt : Option FieldType} {a : Array Value} {s : State} {m : MethodId} {meth : Method} {c : Code} (h1 : s.methodNamed? y = some m) (h2 : s.vm.method? m = some meth) (h3 : meth.code = some c) (h4 : c.code = bytes)
    (h5 : (c.maxLocals == mx && c.exceptionTable.isEmpty && decide (c.maxStack ≤ mostOperands) && decide (meth.sig.returnType = rt) && !meth.locks && decide (parseMethodDescriptor y.desc = some meth.sig)) = true) : (Jvm.Cond.code y bytes mx rt).before a s = true := by
  simp only [Bool.and_eq_true, beq_iff_eq, Bool.not_eq_true', decide_eq_true_eq] at h5
  obtain ⟨⟨⟨⟨⟨g1, g2⟩, g3⟩, g4⟩, g5⟩, g6⟩ := h5
  simp [Cond.before, Cond.holds, Cond.value, h1, h2, h3, h4, g1, g2, g3, g4, g5, g6]
def isCode : Jvm.Cond → Bool
  | .code _ _ _ _ => true
  | _ => false
theorem all_split {L : List Jvm.Cond} {P : Jvm.Cond → Bool} (h1 : L.all (fun c => isCode c || P c) = true) (h2 : ∀ c ∈ L.filter isCode, P c = true) : L.all P = true := by
  refine List.all_eq_true.mpr fun c hc => ?_
  have h := List.all_eq_true.mp h1 c hc
  rcases Bool.eq_false_or_eq_true (isCode c) with hi | hi
  · exact h2 c (List.mem_filter.mpr ⟨hc, hi⟩)
  · simpa [hi] using h
set_option maxRecDepth 65536 in
theorem w_c0 : (Jvm.Cond.code x code maxLocals ret).before args0 about1 = true := code_word (m := ⟨1, 1⟩) (meth := k1m1) (c := k1c1) (by decide +kernel) rfl rfl rfl (by decide +kernel)
set_option maxRecDepth 65536 in
theorem w_c1 : (Jvm.Cond.code ({ cls := "com/example/brisk_tune/brisktune/music/Model", name := "maxUploadTitle", desc := "()I" } : Jvm.MethodName) prog_17_method_8_code (1 : Nat) (Option.some Jvm.ClassFile.FieldType.int)).before args0 about1 = true := code_word (m := ⟨6, 0⟩) (meth := k6m0) (c := k6c0) (by decide +kernel) rfl rfl rfl (by decide +kernel)
set_option maxRecDepth 65536 in
theorem w_c2 : (Jvm.Cond.code ({ cls := "java/lang/Enum", name := "ordinal", desc := "()I" } : Jvm.MethodName) jdk_37_method_2_code (1 : Nat) (Option.some Jvm.ClassFile.FieldType.int)).before args0 about1 = true := code_word (m := ⟨5, 0⟩) (meth := k5m0) (c := k5c0) (by decide +kernel) rfl rfl rfl (by decide +kernel)
def codes1 : List Jvm.Cond := [Jvm.Cond.code x code maxLocals ret, Jvm.Cond.code ({ cls := "com/example/brisk_tune/brisktune/music/Model", name := "maxUploadTitle", desc := "()I" } : Jvm.MethodName) prog_17_method_8_code (1 : Nat) (Option.some Jvm.ClassFile.FieldType.int), Jvm.Cond.code ({ cls := "java/lang/Enum", name := "ordinal", desc := "()I" } : Jvm.MethodName) jdk_37_method_2_code (1 : Nat) (Option.some Jvm.ClassFile.FieldType.int)]
set_option maxRecDepth 65536 in
theorem codes_eq : words1.filter isCode = codes1 := rfl
theorem w_codes : ∀ c ∈ words1.filter isCode, c.before args0 about1 = true := by
  rw [codes_eq]
  intro c hc
  simp only [codes1, List.mem_cons, List.not_mem_nil, or_false] at hc
  rcases hc with rfl | rfl | rfl
  · exact w_c0
  · exact w_c1
  · exact w_c2
set_option maxRecDepth 65536 in
theorem w_t1 : (words1.take 24).all (fun c => isCode c || c.before args0 about1) = true := by decide +kernel
set_option maxRecDepth 65536 in
theorem w_t2 : (words1.drop 24).all (fun c => isCode c || c.before args0 about1) = true := by decide +kernel
theorem w_tables : (allAtoms (Jvm.Cond.code x code maxLocals ret :: tables_1)).before args0 about1 = true := by
  rw [allAtoms_all]
  show words1.all (fun c => c.before args0 about1) = true
  refine all_split ?_ w_codes
  rw [← List.take_append_drop 24 words1, List.all_append, w_t1, w_t2]
  rfl
set_option maxRecDepth 65536 in
theorem w_case : (Jvm.Cond.and given_1 narrow_1).before args0 about1 = true := by decide +kernel
theorem w_applies : (headSpec (Jvm.Cond.code x code maxLocals ret :: tables_1) room_1).applies x e0.platform about1 = true :=
  (Spec.applies_iff w_frames).mpr ⟨w_running, w_runnable, w_alone, w_named, w_hears, w_ripe, w_room, w_tables⟩
theorem atStart : AtStart classFile x code maxLocals ret World_1 tables_1 room_1 Calls_1 rest_1 Pre_1 launch0 p0 e0 about1 theMethod args0 below0 :=
  ⟨lists_1, trivial, launch0.admits_env _ _ _, launch0.least_env, fairChoices_fair.cas, fairChoices_fair.clock, w_frames, w_args, w_heap, w_applies, trivial, trivial, w_case⟩
end start1
theorem witness_1 : WitnessClaimed_1 := ⟨start1.p0, start1.e0, start1.about1, start1.theMethod, start1.args0, start1.below0, start1.atStart⟩
end Jvm.Pilot.@@N@@
