import JvmDerived
import JvmDerived.Pilot.@@N@@Statement
import JvmDerived.Pilot.@@N@@Code
set_option linter.unusedVariables false
set_option linter.unusedSimpArgs false
namespace Jvm.RoadKit
open Sem ClassFile Op Lib Jvm.Stand Jvm.Free Jvm.LawKit
section New
variable {p : Program} {l : Launch} {e : Env} {R : Room} {s : State} {m : MethodId} {args : Array Value} {below : List Frame} {meth : Method} {c : Code} {T : State} {locs : List Loc} {cells slots : Nat}
theorem retI (X : Stand p l e R s m args below meth c T locs cells slots) (hx : p.tables.exec = Jvm.exec) {pc : Nat} {Ls : Array Slot} {z : Int32} {rest : List Value} (hret : meth.sig.returnType = some .int) (hd : decode c.code pc = .ok (.ireturn, 1)) {fs : List Frame}
    (hl : ∀ (f : JFrame) (acts : List Action), f.method = m → f.locked = none → f.entered = [] → (doReturn e (T.setTop f) acts (some (.int z))).1 = T.setFrames fs) : Steps p.tables e below (T.setTop (mkF m pc Ls (.int z :: rest))) (T.setFrames fs) := by
  have hm' : T.vm.method? m = some meth := X.method'
  have hn : narrow .int (.int z) = .int z := rfl
  show Steps p.tables e below (T.setTop { method := m, pc := pc, locals := Ls, stack := _ :: rest, locked := none }) _
  jvm_step X.here [X.here.top, hx, hd, hm', hret, hn]
  first | (intro acts; rw [hl _ acts rfl rfl rfl]) | rw [hl _ _ rfl rfl rfl]
  exact Steps.refl _
end New
variable {Z : State} {h h' : Heap} {C n d : String} {v w : Value} {ws : List Addr}
theorem own_staKeep (F : Sta Z h C n d v) (K : Keep h h' ws) (q : ∀ x ∈ ws, ∀ c : Cell, h[x]? = some c → c.vm.isStatics = false) : Sta Z h' C n d v := by
  obtain ⟨cf, i, k, f, st, cell, h1, h2, h3, h4, h5, h6, h7⟩ := F
  refine ⟨cf, i, k, f, st, cell, h1, h2, h3, h4, K.2.1 _ _ h5 (fun r => ?_), h6, h7⟩
  rw [q _ r _ h5] at h6; cases h6
theorem own_staNew {n0 : Nat} (F : Sta Z h C n d v) (K : Keep h h' ws) (hn : ∀ x ∈ ws, n0 ≤ x) (hs : ∀ (x : Addr) (c : Cell), h[x]? = some c → c.vm.isStatics = true → x < n0) : Sta Z h' C n d v := by
  obtain ⟨cf, i, k, f, st, cell, h1, h2, h3, h4, h5, h6, h7⟩ := F
  exact ⟨cf, i, k, f, st, cell, h1, h2, h3, h4, K.2.1 _ _ h5 (fun r => absurd (hs _ _ h5 h6) (Nat.not_lt.mpr (hn _ r))), h6, h7⟩
theorem own_fldI {args : Array Value} {s : State} {t : Term} {a : Addr} {C n d : String} {k : Int32} (ht : t.eval args s none [] s = some (.ref a)) (h : (Cond.eq (.field t C n d) (.int k)).value args s none s [] = some true) : Fld s s.heap a C n d (.int k) := Fld.start ((fld_at ht).symm.trans (eqv_i rfl h))
theorem own_fldR {args : Array Value} {s : State} {t u : Term} {a b : Addr} {C n d : String} (ht : t.eval args s none [] s = some (.ref a)) (hu : u.eval args s none [] s = some (.ref b)) (h : (Cond.eq (.field t C n d) u).value args s none s [] = some true) : Fld s s.heap a C n d (.ref b) := by
  obtain ⟨x, y, ex, ey, kx, ky⟩ := cmp_v (Or.inl h)
  have e1 : s.fieldOf? a C n d = some x := by rw [← fld_at ht]; exact ex
  cases hu.symm.trans ey
  have q : x = .ref b := by
    cases x <;> simp [Cond.value, ex, hu] at h ⊢
    exact h
  exact Fld.start (by rw [e1, q])
theorem own_staL {args : Array Value} {s : State} {C n d : String} {k : Int64} (h : (Cond.eq (.static C n d) (.long k)).value args s none s [] = some true) : (Term.static C n d).eval args s none [] s = some (.long k) := eqv_l rfl h
end Jvm.RoadKit
namespace Jvm.Pilot.@@N@@
open Jvm Jvm.ClassFile Sem Op Lib Jvm.Free Jvm.Stand Jvm.LawKit Jvm.RoadKit Bundle Jvm.Pilot.@@N@@.Jvm.D
theorem pd___V : parseMethodDescriptor "()V" = some ⟨[], none⟩ := by decide +kernel
theorem pd__II_I : parseMethodDescriptor "(II)I" = some ⟨[.int, .int], some .int⟩ := by decide +kernel
theorem pd__IIII_V : parseMethodDescriptor "(IIII)V" = some ⟨[.int, .int, .int, .int], none⟩ := by decide +kernel
theorem pd__II_Z : parseMethodDescriptor "(II)Z" = some ⟨[.int, .int], some .boolean⟩ := by decide +kernel
def own_max (a b : Int32) : Int32 := if a < b then b else a
def own_fits (r b w h : Int32) : Int32 := if w < r then 0 else if h < b then 0 else 1
theorem own_pos (x : Int32) : (0 : Int32) < own_max 1 (x &&& 2147483647) := by
  unfold own_max
  have h := c_and x 2147483647 (by decide)
  have h7 : (1 : Int32).toInt = 1 := rfl
  have h8 : (0 : Int32).toInt = 0 := rfl
  simp only [Int32.lt_iff_toInt_lt]
  split <;> omega
theorem own_left (x R : Int32) (h : (0 : Int32) < R) : ¬ ((x &&& 2147483647) % R < 0) ∧ (x &&& 2147483647) % R < R := by
  have h1 := c_and x 2147483647 (by decide)
  have h8 : (0 : Int32).toInt = 0 := rfl
  rw [Int32.lt_iff_toInt_lt, h8] at h
  have h2 := (c_iremV (x &&& 2147483647) R).1 h1.1 h
  rw [Int32.lt_iff_toInt_lt, Int32.lt_iff_toInt_lt]
  omega
theorem own_nz (R : Int32) (h : (0 : Int32) < R) : R ≠ 0 := fun q => by rw [q] at h; exact absurd h (by decide)
theorem own_pred (R : Int32) (h : (0 : Int32) < R) : R - 1 < R := by
  have h1 := c_isub R 1
  have h5 := rng32 R
  have h6 := rng32 (R - 1)
  have h7 : (1 : Int32).toInt = 1 := rfl
  have h8 : (0 : Int32).toInt = 0 := rfl
  rw [Int32.lt_iff_toInt_lt, h8] at h
  rw [Int32.lt_iff_toInt_lt]
  omega
theorem own_nmax (R : Int32) : ¬ ((2147483647 : Int32) < R) := by
  have h5 := rng32 R
  have h8 : (2147483647 : Int32).toInt = 2147483647 := rfl
  rw [Int32.lt_iff_toInt_lt]
  omega
theorem own_lt (a w : Int32) : (a.toInt64 - (1 : Int64) < w.toInt64) ↔ ¬ (w < a) := by
  have h2 := c_lsub a.toInt64 1
  have h3 := c_i2l a
  have h4 := c_i2l w
  have h5 := rng32 a
  have h6 := rng32 w
  have h7 : (1 : Int64).toInt = 1 := rfl
  have h9 := rng64 (a.toInt64 - 1)
  rw [Int64.lt_iff_toInt_lt, Int32.lt_iff_toInt_lt]
  constructor <;> intro h <;> omega
theorem own_ge (a w : Int32) (h : ¬ (a.toInt64 - (1 : Int64) < w.toInt64)) : w < a := Classical.byContradiction fun q => h ((own_lt a w).2 q)
theorem d1_0 : decode jdk_29_method_65_code 0 = .ok (.iload_n 0, 1) := by decide +kernel
theorem d1_1 : decode jdk_29_method_65_code 1 = .ok (.iload_n 1, 1) := by decide +kernel
theorem d1_2 : decode jdk_29_method_65_code 2 = .ok (.if_icmp .lt 7, 3) := by decide +kernel
theorem d1_5 : decode jdk_29_method_65_code 5 = .ok (.iload_n 0, 1) := by decide +kernel
theorem d1_6 : decode jdk_29_method_65_code 6 = .ok (.goto 4, 3) := by decide +kernel
theorem d1_9 : decode jdk_29_method_65_code 9 = .ok (.iload_n 1, 1) := by decide +kernel
theorem d1_10 : decode jdk_29_method_65_code 10 = .ok (.ireturn, 1) := by decide +kernel
theorem ef_1 (m : MethodId) (x0 : Int32) (x1 : Int32) : entryFrame m #[(.int x0), (.int x1)] 2 = mkF m 0 #[.val (.int x0), .val (.int x1)] [] := by first | (simp [entryFrame, mkF, argsToLocals, Value.category]; done) | rfl
def Q_1 (Z : State) (p1 : Int32) (p2 : Int32) (r : Int32) (h0 : Heap) (n0 : Nat) (v : Option Value) (h : Heap) (L : List Loc) : Prop := v = some (.int r) ∧ Fr n0 L ∧ h = h0
set_option maxRecDepth 65536 in
set_option maxHeartbeats 40000000 in
theorem rm_1 (l : Launch) (Z : State) (a0 : Array Value) (hw : ∀ d ∈ tables_1, d.before a0 Z = true) (ws : List Jvm.Cond) (p1 : Int32) (p2 : Int32) (r : Int32) (h0 : Heap) (n0 : Nat) (Z0 : n0 ≤ h0.size) (hsp : own_max p1 p2 = r) :
    MetFree l (⟨"java/lang/Math", "max", "(II)I"⟩ : MethodName) (head1 (Jvm.Cond.code (⟨"java/lang/Math", "max", "(II)I"⟩ : MethodName) jdk_29_method_65_code 2 (some .int) :: ws) ({ frames := 0, cells := 0, slots := 0, locals := 0 } : Room)) (fun a U => a = #[(.int p1), (.int p2)] ∧ Z.Warmed39 U.vm ∧ U.heap = h0) (fun _ _ _ _ _ => True) (fun _ U o U' => ∃ v L, o = .returned v ∧ Q_1 Z p1 p2 r h0 n0 v U'.heap L ∧ FrameEnd U o U' L ({ frames := 0, cells := 0, slots := 0, locals := 0 } : Room).cells ({ frames := 0, cells := 0, slots := 0, locals := 0 } : Room).slots) := by
  refine MetFree.of_bodySF (Jvm.Free.JP.mathPlain rfl (by decide +kernel)) hisR ?_
  intro p e s m args below meth c s₁ Bd hml0 hP hK
  obtain ⟨rfl, hZ, hh⟩ := hP
  have hx := Bd.exec
  have hby := Bd.bytes
  have hml : c.maxLocals = 2 := hml0
  have hown : s.vm.findClass "java/lang/Math" = some m.cls := findClass_of_methodNamed Bd.named
  have hnm := (name_of_methodNamed Bd.named Bd.method).1
  have X0 : Stand p l e ({ frames := 0, cells := 0, slots := 0, locals := 0 } : Room) s m #[(.int p1), (.int p2)] below meth c s₁ [] 0 0 := Stand.of_body Bd
  have e0 : s₁.heap = h0 := by rw [← hh, Bd.state]; rfl
  have N0 := Fr.nil n0
  have pw0 : ∀ t, Steps p.tables e below (s₁.setTop (mkF m 0 #[.val (.int p1), .val (.int p2)] [])) t → Steps p.tables e below (s₁.setTop (entryFrame m #[(.int p1), (.int p2)] 2)) t := fun t k => castTop (ef_1 m p1 p2) k
  have K0 : Keep h0 h0 [] := Keep.refl h0 []
  have pw1 : ∀ t, Steps p.tables e below (s₁.setTop (mkF m 2 #[.val (.int p1), .val (.int p2)] [(.int p2), (.int p1)])) t → Steps p.tables e below (s₁.setTop (entryFrame m #[(.int p1), (.int p2)] 2)) t := by
    intro t k
    refine pw0 t ?_
    refine XS.iloadN X0.here hx rfl (hb hby d1_0) rfl ?_
    show Steps p.tables e below (s₁.setTop (mkF m 1 #[.val (.int p1), .val (.int p2)] [(.int p1)])) _
    refine XS.iloadN X0.here hx rfl (hb hby d1_1) rfl ?_
    show Steps p.tables e below (s₁.setTop (mkF m 2 #[.val (.int p1), .val (.int p2)] [(.int p2), (.int p1)])) _
    exact k
  by_cases hc2 : p1 < p2
  · skip
    obtain ⟨fs, hr, hrun, hended, hW, hsame⟩ := X0.leave (v := some (.int p2)) (fun h => by rw [Bd.returns] at h; cases h)
    refine ⟨_, _, pw1 _ ?_, hrun, hended, _, _, rfl, ?_, ⟨_, rfl⟩, hW, hsame.mono (by decide) (by decide)⟩
    · skip
      refine XS.icmpYes X0.here hx rfl (pc0 := 2) (pc' := 9) rfl (hb hby d1_2) rfl (tlt hc2).1 (by decide) (by decide) ?_
      show Steps p.tables e below (s₁.setTop (mkF m 9 #[.val (.int p1), .val (.int p2)] [])) _
      refine XS.iloadN X0.here hx rfl (hb hby d1_9) rfl ?_
      show Steps p.tables e below (s₁.setTop (mkF m 10 #[.val (.int p1), .val (.int p2)] [(.int p2)])) _
      exact retI X0 hx Bd.returns (hb hby d1_10) hr
    · show Q_1 Z p1 p2 r h0 n0 _ s₁.heap _
      rw [e0]
      exact ⟨by rw [← hsp]; unfold own_max; rw [if_pos hc2], N0, rfl⟩
  · skip
    obtain ⟨fs, hr, hrun, hended, hW, hsame⟩ := X0.leave (v := some (.int p1)) (fun h => by rw [Bd.returns] at h; cases h)
    refine ⟨_, _, pw1 _ ?_, hrun, hended, _, _, rfl, ?_, ⟨_, rfl⟩, hW, hsame.mono (by decide) (by decide)⟩
    · skip
      refine XS.icmpNo X0.here hx rfl (hb hby d1_2) rfl (flt hc2).1 ?_
      show Steps p.tables e below (s₁.setTop (mkF m 5 #[.val (.int p1), .val (.int p2)] [])) _
      refine XS.iloadN X0.here hx rfl (hb hby d1_5) rfl ?_
      show Steps p.tables e below (s₁.setTop (mkF m 6 #[.val (.int p1), .val (.int p2)] [(.int p1)])) _
      refine XS.goto X0.here hx rfl (pc0 := 6) (pc' := 10) rfl (hb hby d1_6) (by decide) (by decide) ?_
      show Steps p.tables e below (s₁.setTop (mkF m 10 #[.val (.int p1), .val (.int p2)] [(.int p1)])) _
      exact retI X0 hx Bd.returns (hb hby d1_10) hr
    · show Q_1 Z p1 p2 r h0 n0 _ s₁.heap _
      rw [e0]
      exact ⟨by rw [← hsp]; unfold own_max; rw [if_neg hc2], N0, rfl⟩
theorem d3_0 : decode jdk_30_method_1_code 0 = .ok (.aload_n 0, 1) := by decide +kernel
theorem d3_1 : decode jdk_30_method_1_code 1 = .ok (.invokespecial 1, 3) := by decide +kernel
theorem d3_4 : decode jdk_30_method_1_code 4 = .ok (.return_, 1) := by decide +kernel
theorem ef_3 (m : MethodId) (x0 : Addr) : entryFrame m #[(.ref x0)] 1 = mkF m 0 #[.val (.ref x0)] [] := by first | (simp [entryFrame, mkF, argsToLocals, Value.category]; done) | rfl
theorem pn_java_lang_Record : plainName "java/lang/Record" = true := by first | (simp [plainName, overriddenIn]; done) | decide +kernel
def Q_3 (Z : State) (a1 : Addr) (h0 : Heap) (n0 : Nat) (v : Option Value) (h : Heap) (L : List Loc) : Prop := v = none ∧ Fr n0 L ∧ h = h0
set_option maxRecDepth 65536 in
set_option maxHeartbeats 40000000 in
theorem rm_3 (l : Launch) (Z : State) (a0 : Array Value) (hw : ∀ d ∈ tables_1, d.before a0 Z = true) (ws : List Jvm.Cond) (a1 : Addr) (h0 : Heap) (n0 : Nat) (Z0 : n0 ≤ h0.size)  :
    MetFree l (⟨"java/lang/Record", "<init>", "()V"⟩ : MethodName) (head1 (Jvm.Cond.code (⟨"java/lang/Record", "<init>", "()V"⟩ : MethodName) jdk_30_method_1_code 1 none :: ws) ({ frames := 1, cells := 0, slots := 0, locals := 12 } : Room)) (fun a U => a = #[(.ref a1)] ∧ Z.Warmed39 U.vm ∧ U.heap = h0) (fun _ _ _ _ _ => True) (fun _ U o U' => ∃ v L, o = .returned v ∧ Q_3 Z a1 h0 n0 v U'.heap L ∧ FrameEnd U o U' L ({ frames := 1, cells := 0, slots := 0, locals := 12 } : Room).cells ({ frames := 1, cells := 0, slots := 0, locals := 12 } : Room).slots) := by
  refine MetFree.of_bodySF (plainFor_of_name pn_java_lang_Record) hisR ?_
  intro p e s m args below meth c s₁ Bd hml0 hP hK
  obtain ⟨rfl, hZ, hh⟩ := hP
  have hx := Bd.exec
  have hby := Bd.bytes
  have hml : c.maxLocals = 1 := hml0
  have hown : s.vm.findClass "java/lang/Record" = some m.cls := findClass_of_methodNamed Bd.named
  have hnm := (name_of_methodNamed Bd.named Bd.method).1
  have X0 : Stand p l e ({ frames := 1, cells := 0, slots := 0, locals := 12 } : Room) s m #[(.ref a1)] below meth c s₁ [] 0 0 := Stand.of_body Bd
  have e0 : s₁.heap = h0 := by rw [← hh, Bd.state]; rfl
  have N0 := Fr.nil n0
  have pw0 : ∀ t, Steps p.tables e below (s₁.setTop (mkF m 0 #[.val (.ref a1)] [])) t → Steps p.tables e below (s₁.setTop (entryFrame m #[(.ref a1)] 1)) t := fun t k => castTop (ef_3 m a1) k
  have K0 : Keep h0 h0 [] := Keep.refl h0 []
  obtain ⟨T3, X3, e3, st3⟩ := initO X0 hx hZ hown (hw _ (List.mem_of_getElem? (i := 16) rfl)) (hw _ (List.mem_of_getElem? (i := 17) rfl)) (hw _ (List.mem_of_getElem? (i := 18) rfl)) e0 (g := (mkF m 1 #[.val (.ref a1)] [(.ref a1)])) rfl (by rw [hml]; rfl) rfl (hb hby d3_1) (by decide) (W := 0) (by show 2 * 0 + _ ≤ _; exact Nat.le_of_eq rfl) (by decide)
  obtain ⟨fs, hr, hrun, hended, hW, hsame⟩ := X3.leave (v := none) (fun _ => rfl)
  refine ⟨_, _, pw0 _ ?_, hrun, hended, _, _, rfl, ?_, ⟨_, rfl⟩, hW, hsame.mono (by decide) (by decide)⟩
  · skip
    refine XS.aloadN X0.here hx rfl (hb hby d3_0) rfl rfl ?_
    show Steps p.tables e below (s₁.setTop (mkF m 1 #[.val (.ref a1)] [(.ref a1)])) _
    refine st3 _ ?_
    show Steps p.tables e below (T3.setTop (mkF m 4 #[.val (.ref a1)] [])) _
    exact X3.returnOut hx Bd.returns (hb hby d3_4) hr
  · show Q_3 Z a1 h0 n0 _ T3.heap _
    rw [e3]
    exact ⟨rfl, N0, rfl⟩
theorem d2_0 : decode prog_47_method_1_code 0 = .ok (.aload_n 0, 1) := by decide +kernel
theorem d2_1 : decode prog_47_method_1_code 1 = .ok (.invokespecial 1, 3) := by decide +kernel
theorem d2_4 : decode prog_47_method_1_code 4 = .ok (.iload_n 1, 1) := by decide +kernel
theorem d2_5 : decode prog_47_method_1_code 5 = .ok (.ifCond .lt 18, 3) := by decide +kernel
theorem d2_8 : decode prog_47_method_1_code 8 = .ok (.iload_n 2, 1) := by decide +kernel
theorem d2_9 : decode prog_47_method_1_code 9 = .ok (.ifCond .lt 14, 3) := by decide +kernel
theorem d2_12 : decode prog_47_method_1_code 12 = .ok (.iload_n 3, 1) := by decide +kernel
theorem d2_13 : decode prog_47_method_1_code 13 = .ok (.iload_n 1, 1) := by decide +kernel
theorem d2_14 : decode prog_47_method_1_code 14 = .ok (.if_icmp .le 9, 3) := by decide +kernel
theorem d2_17 : decode prog_47_method_1_code 17 = .ok (.iload 4, 2) := by decide +kernel
theorem d2_19 : decode prog_47_method_1_code 19 = .ok (.iload_n 2, 1) := by decide +kernel
theorem d2_20 : decode prog_47_method_1_code 20 = .ok (.if_icmp .gt 27, 3) := by decide +kernel
theorem d2_47 : decode prog_47_method_1_code 47 = .ok (.aload_n 0, 1) := by decide +kernel
theorem d2_48 : decode prog_47_method_1_code 48 = .ok (.iload_n 1, 1) := by decide +kernel
theorem d2_49 : decode prog_47_method_1_code 49 = .ok (.putfield 28, 3) := by decide +kernel
theorem d2_52 : decode prog_47_method_1_code 52 = .ok (.aload_n 0, 1) := by decide +kernel
theorem d2_53 : decode prog_47_method_1_code 53 = .ok (.iload_n 2, 1) := by decide +kernel
theorem d2_54 : decode prog_47_method_1_code 54 = .ok (.putfield 32, 3) := by decide +kernel
theorem d2_57 : decode prog_47_method_1_code 57 = .ok (.aload_n 0, 1) := by decide +kernel
theorem d2_58 : decode prog_47_method_1_code 58 = .ok (.iload_n 3, 1) := by decide +kernel
theorem d2_59 : decode prog_47_method_1_code 59 = .ok (.putfield 35, 3) := by decide +kernel
theorem d2_62 : decode prog_47_method_1_code 62 = .ok (.aload_n 0, 1) := by decide +kernel
theorem d2_63 : decode prog_47_method_1_code 63 = .ok (.iload 4, 2) := by decide +kernel
theorem d2_65 : decode prog_47_method_1_code 65 = .ok (.putfield 38, 3) := by decide +kernel
theorem d2_68 : decode prog_47_method_1_code 68 = .ok (.return_, 1) := by decide +kernel
theorem ef_2 (m : MethodId) (x0 : Addr) (x1 : Int32) (x2 : Int32) (x3 : Int32) (x4 : Int32) : entryFrame m #[(.ref x0), (.int x1), (.int x2), (.int x3), (.int x4)] 5 = mkF m 0 #[.val (.ref x0), .val (.int x1), .val (.int x2), .val (.int x3), .val (.int x4)] [] := by first | (simp [entryFrame, mkF, argsToLocals, Value.category]; done) | rfl
theorem pn_com_example_frameloom_frameloom_queue_Crop : plainName "com/example/frameloom/frameloom/queue/Crop" = true := by first | (simp [plainName, overriddenIn]; done) | decide +kernel
def Q_2 (Z : State) (a1 : Addr) (p2 : Int32) (p3 : Int32) (p4 : Int32) (p5 : Int32) (u1 u2 u3 u4 : Value) (h0 : Heap) (n0 : Nat) (v : Option Value) (h : Heap) (L : List Loc) : Prop := v = none ∧ Fr n0 L ∧ Keep h0 h [a1] ∧ Exa Z h a1 "com/example/frameloom/frameloom/queue/Crop" ∧ Fld Z h a1 "com/example/frameloom/frameloom/queue/Crop" "left" "I" (.int p2) ∧ Fld Z h a1 "com/example/frameloom/frameloom/queue/Crop" "top" "I" (.int p3) ∧ Fld Z h a1 "com/example/frameloom/frameloom/queue/Crop" "right" "I" (.int p4) ∧ Fld Z h a1 "com/example/frameloom/frameloom/queue/Crop" "bottom" "I" (.int p5)
set_option maxRecDepth 65536 in
set_option maxHeartbeats 40000000 in
theorem rm_2 (l : Launch) (Z : State) (a0 : Array Value) (hw : ∀ d ∈ tables_1, d.before a0 Z = true) (ws : List Jvm.Cond) (a1 : Addr) (p2 : Int32) (p3 : Int32) (p4 : Int32) (p5 : Int32) (u1 u2 u3 u4 : Value) (h0 : Heap) (n0 : Nat) (Z0 : n0 ≤ h0.size) (E_a1 : Exa Z h0 a1 "com/example/frameloom/frameloom/queue/Crop") (F_left : Fld Z h0 a1 "com/example/frameloom/frameloom/queue/Crop" "left" "I" u1) (F_top : Fld Z h0 a1 "com/example/frameloom/frameloom/queue/Crop" "top" "I" u2) (F_right : Fld Z h0 a1 "com/example/frameloom/frameloom/queue/Crop" "right" "I" u3) (F_bottom : Fld Z h0 a1 "com/example/frameloom/frameloom/queue/Crop" "bottom" "I" u4) (g_a1 : n0 ≤ a1) (q1 : ¬ (p2 < 0)) (q2 : ¬ (p3 < 0)) (q3 : p2 < p4) (q4 : p3 < p5) :
    MetFree l (⟨"com/example/frameloom/frameloom/queue/Crop", "<init>", "(IIII)V"⟩ : MethodName) (head1 (Jvm.Cond.code (⟨"com/example/frameloom/frameloom/queue/Crop", "<init>", "(IIII)V"⟩ : MethodName) prog_47_method_1_code 5 none :: ws) ({ frames := 2, cells := 0, slots := 0, locals := 24 } : Room)) (fun a U => a = #[(.ref a1), (.int p2), (.int p3), (.int p4), (.int p5)] ∧ Z.Warmed39 U.vm ∧ U.heap = h0) (fun _ _ _ _ _ => True) (fun _ U o U' => ∃ v L, o = .returned v ∧ Q_2 Z a1 p2 p3 p4 p5 u1 u2 u3 u4 h0 n0 v U'.heap L ∧ FrameEnd U o U' L ({ frames := 2, cells := 0, slots := 0, locals := 24 } : Room).cells ({ frames := 2, cells := 0, slots := 0, locals := 24 } : Room).slots) := by
  refine MetFree.of_bodySF (plainFor_of_name pn_com_example_frameloom_frameloom_queue_Crop) hisR ?_
  intro p e s m args below meth c s₁ Bd hml0 hP hK
  obtain ⟨rfl, hZ, hh⟩ := hP
  have hx := Bd.exec
  have hby := Bd.bytes
  have hml : c.maxLocals = 5 := hml0
  have hown : s.vm.findClass "com/example/frameloom/frameloom/queue/Crop" = some m.cls := findClass_of_methodNamed Bd.named
  have hnm := (name_of_methodNamed Bd.named Bd.method).1
  have X0 : Stand p l e ({ frames := 2, cells := 0, slots := 0, locals := 24 } : Room) s m #[(.ref a1), (.int p2), (.int p3), (.int p4), (.int p5)] below meth c s₁ [] 0 0 := Stand.of_body Bd
  have e0 : s₁.heap = h0 := by rw [← hh, Bd.state]; rfl
  have N0 := Fr.nil n0
  have pw0 : ∀ t, Steps p.tables e below (s₁.setTop (mkF m 0 #[.val (.ref a1), .val (.int p2), .val (.int p3), .val (.int p4), .val (.int p5)] [])) t → Steps p.tables e below (s₁.setTop (entryFrame m #[(.ref a1), (.int p2), (.int p3), (.int p4), (.int p5)] 5)) t := fun t k => castTop (ef_2 m a1 p2 p3 p4 p5) k
  have K0 : Keep h0 h0 [a1] := Keep.refl h0 [a1]
  obtain ⟨_, _, ⟨T4, L4, k4, n4⟩, -, X4, ⟨Lc4, hQ4, l4, y4, z4⟩, st4⟩ := X0.specialBack hx (y := (⟨"java/lang/Record", "<init>", "()V"⟩ : MethodName)) rfl hown (mvT hZ (hw _ (List.mem_of_getElem? (i := 11) rfl))) (mvT hZ (hw _ (List.mem_of_getElem? (i := 12) rfl))) (mvT hZ (hw _ (List.mem_of_getElem? (i := 15) rfl))) (by decide) (backOf (W := 0) (rm_3 l Z a0 hw [] a1 h0 n0 Z0 ) hZ (hw _ (List.mem_of_getElem? (i := 15) rfl)) (hw _ (List.mem_of_getElem? (i := 14) rfl)) (by decide) (by decide)) (g := (mkF m 1 #[.val (.ref a1), .val (.int p2), .val (.int p3), .val (.int p4), .val (.int p5)] [(.ref a1)])) rfl (by rw [hml]; rfl) (Steps.refl _) (a := a1) (argsL := []) (rest := []) (lenOf pd___V rfl) rfl (by show 2 * 0 + _ ≤ _; exact Nat.le_of_eq rfl) (hb hby d2_1) (fun _ _ => ⟨rfl, e0, (by decide : 0 + 0 ≤ _), (by decide : 0 + 0 ≤ _)⟩)
  dsimp only [Pt.U, Pt.locs, Pt.cells, Pt.slots] at X4 l4 y4 z4 st4 hQ4
  subst l4 y4 z4
  obtain ⟨rfl, N4q, e4q⟩ := hQ4
  have N4 := Fr.app N0 N4q
  obtain ⟨T5, h5, X5, e5, W5, st5⟩ := putF X4 hx hZ hown (host := "") (Or.inl (hw _ (List.mem_of_getElem? (i := 19) rfl))) Via.refl e4q F_left E_a1 (Or.inr ⟨(hw _ (List.mem_of_getElem? (i := 20) rfl)), rfl, hnm⟩) (hw _ (List.mem_of_getElem? (i := 6) rfl)) (ty := .int) (by decide) rfl rfl (g := (mkF m 49 #[.val (.ref a1), .val (.int p2), .val (.int p3), .val (.int p4), .val (.int p5)] [(.int p2), (.ref a1)])) rfl rfl (hb hby d2_49)
  have Fw5 := F_left.same W5
  have K5 : Keep h0 h5 [a1] := K0.wr W5 (Or.inl (List.mem_of_getElem? (i := 0) rfl))
  have N5 := Fr.snoc X5 N4 g_a1
  have Z5 : n0 ≤ h5.size := (Nat.le_trans Z0 (Nat.le_of_eq (Wr.size W5).symm))
  obtain ⟨T6, h6, X6, e6, W6, st6⟩ := putF X5 hx hZ hown (host := "") (Or.inl (hw _ (List.mem_of_getElem? (i := 21) rfl))) Via.refl e5 (F_top.other W5 (Or.inr (slot_ne (Or.inr (hw _ (List.mem_of_getElem? (i := 22) rfl))) (Or.inr (hw _ (List.mem_of_getElem? (i := 20) rfl))) (by decide) (t := .int) (t' := .int) (by decide) (by decide)))) (E_a1.wr W5) (Or.inr ⟨(hw _ (List.mem_of_getElem? (i := 22) rfl)), rfl, hnm⟩) (hw _ (List.mem_of_getElem? (i := 6) rfl)) (ty := .int) (by decide) rfl rfl (g := (mkF m 54 #[.val (.ref a1), .val (.int p2), .val (.int p3), .val (.int p4), .val (.int p5)] [(.int p3), (.ref a1)])) rfl rfl (hb hby d2_54)
  have Fw6 := (F_top.other W5 (Or.inr (slot_ne (Or.inr (hw _ (List.mem_of_getElem? (i := 22) rfl))) (Or.inr (hw _ (List.mem_of_getElem? (i := 20) rfl))) (by decide) (t := .int) (t' := .int) (by decide) (by decide)))).same W6
  have K6 : Keep h0 h6 [a1] := K5.wr W6 (Or.inl (List.mem_of_getElem? (i := 0) rfl))
  have N6 := Fr.snoc X6 N5 g_a1
  have Z6 : n0 ≤ h6.size := (Nat.le_trans Z5 (Nat.le_of_eq (Wr.size W6).symm))
  obtain ⟨T7, h7, X7, e7, W7, st7⟩ := putF X6 hx hZ hown (host := "") (Or.inl (hw _ (List.mem_of_getElem? (i := 23) rfl))) Via.refl e6 ((F_right.other W5 (Or.inr (slot_ne (Or.inr (hw _ (List.mem_of_getElem? (i := 24) rfl))) (Or.inr (hw _ (List.mem_of_getElem? (i := 20) rfl))) (by decide) (t := .int) (t' := .int) (by decide) (by decide)))).other W6 (Or.inr (slot_ne (Or.inr (hw _ (List.mem_of_getElem? (i := 24) rfl))) (Or.inr (hw _ (List.mem_of_getElem? (i := 22) rfl))) (by decide) (t := .int) (t' := .int) (by decide) (by decide)))) ((E_a1.wr W5).wr W6) (Or.inr ⟨(hw _ (List.mem_of_getElem? (i := 24) rfl)), rfl, hnm⟩) (hw _ (List.mem_of_getElem? (i := 6) rfl)) (ty := .int) (by decide) rfl rfl (g := (mkF m 59 #[.val (.ref a1), .val (.int p2), .val (.int p3), .val (.int p4), .val (.int p5)] [(.int p4), (.ref a1)])) rfl rfl (hb hby d2_59)
  have Fw7 := ((F_right.other W5 (Or.inr (slot_ne (Or.inr (hw _ (List.mem_of_getElem? (i := 24) rfl))) (Or.inr (hw _ (List.mem_of_getElem? (i := 20) rfl))) (by decide) (t := .int) (t' := .int) (by decide) (by decide)))).other W6 (Or.inr (slot_ne (Or.inr (hw _ (List.mem_of_getElem? (i := 24) rfl))) (Or.inr (hw _ (List.mem_of_getElem? (i := 22) rfl))) (by decide) (t := .int) (t' := .int) (by decide) (by decide)))).same W7
  have K7 : Keep h0 h7 [a1] := K6.wr W7 (Or.inl (List.mem_of_getElem? (i := 0) rfl))
  have N7 := Fr.snoc X7 N6 g_a1
  have Z7 : n0 ≤ h7.size := (Nat.le_trans Z6 (Nat.le_of_eq (Wr.size W7).symm))
  obtain ⟨T8, h8, X8, e8, W8, st8⟩ := putF X7 hx hZ hown (host := "") (Or.inl (hw _ (List.mem_of_getElem? (i := 25) rfl))) Via.refl e7 (((F_bottom.other W5 (Or.inr (slot_ne (Or.inr (hw _ (List.mem_of_getElem? (i := 26) rfl))) (Or.inr (hw _ (List.mem_of_getElem? (i := 20) rfl))) (by decide) (t := .int) (t' := .int) (by decide) (by decide)))).other W6 (Or.inr (slot_ne (Or.inr (hw _ (List.mem_of_getElem? (i := 26) rfl))) (Or.inr (hw _ (List.mem_of_getElem? (i := 22) rfl))) (by decide) (t := .int) (t' := .int) (by decide) (by decide)))).other W7 (Or.inr (slot_ne (Or.inr (hw _ (List.mem_of_getElem? (i := 26) rfl))) (Or.inr (hw _ (List.mem_of_getElem? (i := 24) rfl))) (by decide) (t := .int) (t' := .int) (by decide) (by decide)))) (((E_a1.wr W5).wr W6).wr W7) (Or.inr ⟨(hw _ (List.mem_of_getElem? (i := 26) rfl)), rfl, hnm⟩) (hw _ (List.mem_of_getElem? (i := 6) rfl)) (ty := .int) (by decide) rfl rfl (g := (mkF m 65 #[.val (.ref a1), .val (.int p2), .val (.int p3), .val (.int p4), .val (.int p5)] [(.int p5), (.ref a1)])) rfl rfl (hb hby d2_65)
  have Fw8 := (((F_bottom.other W5 (Or.inr (slot_ne (Or.inr (hw _ (List.mem_of_getElem? (i := 26) rfl))) (Or.inr (hw _ (List.mem_of_getElem? (i := 20) rfl))) (by decide) (t := .int) (t' := .int) (by decide) (by decide)))).other W6 (Or.inr (slot_ne (Or.inr (hw _ (List.mem_of_getElem? (i := 26) rfl))) (Or.inr (hw _ (List.mem_of_getElem? (i := 22) rfl))) (by decide) (t := .int) (t' := .int) (by decide) (by decide)))).other W7 (Or.inr (slot_ne (Or.inr (hw _ (List.mem_of_getElem? (i := 26) rfl))) (Or.inr (hw _ (List.mem_of_getElem? (i := 24) rfl))) (by decide) (t := .int) (t' := .int) (by decide) (by decide)))).same W8
  have K8 : Keep h0 h8 [a1] := K7.wr W8 (Or.inl (List.mem_of_getElem? (i := 0) rfl))
  have N8 := Fr.snoc X8 N7 g_a1
  have Z8 : n0 ≤ h8.size := (Nat.le_trans Z7 (Nat.le_of_eq (Wr.size W8).symm))
  obtain ⟨fs, hr, hrun, hended, hW, hsame⟩ := X8.leave (v := none) (fun _ => rfl)
  refine ⟨_, _, pw0 _ ?_, hrun, hended, _, _, rfl, ?_, ⟨_, rfl⟩, hW, hsame.mono (by decide) (by decide)⟩
  · skip
    refine XS.aloadN X0.here hx rfl (hb hby d2_0) rfl rfl ?_
    show Steps p.tables e below (s₁.setTop (mkF m 1 #[.val (.ref a1), .val (.int p2), .val (.int p3), .val (.int p4), .val (.int p5)] [(.ref a1)])) _
    refine st4.trans ?_
    show Steps p.tables e below (T4.setTop (mkF m 4 #[.val (.ref a1), .val (.int p2), .val (.int p3), .val (.int p4), .val (.int p5)] [])) _
    refine XS.iloadN X4.here hx rfl (hb hby d2_4) rfl ?_
    show Steps p.tables e below (T4.setTop (mkF m 5 #[.val (.ref a1), .val (.int p2), .val (.int p3), .val (.int p4), .val (.int p5)] [(.int p2)])) _
    refine XS.ifNo X4.here hx rfl (hb hby d2_5) rfl ((if0 _ _).trans (flt (q1 : ¬ (p2 < (0 : Int32)))).1) ?_
    show Steps p.tables e below (T4.setTop (mkF m 8 #[.val (.ref a1), .val (.int p2), .val (.int p3), .val (.int p4), .val (.int p5)] [])) _
    refine XS.iloadN X4.here hx rfl (hb hby d2_8) rfl ?_
    show Steps p.tables e below (T4.setTop (mkF m 9 #[.val (.ref a1), .val (.int p2), .val (.int p3), .val (.int p4), .val (.int p5)] [(.int p3)])) _
    refine XS.ifNo X4.here hx rfl (hb hby d2_9) rfl ((if0 _ _).trans (flt (q2 : ¬ (p3 < (0 : Int32)))).1) ?_
    show Steps p.tables e below (T4.setTop (mkF m 12 #[.val (.ref a1), .val (.int p2), .val (.int p3), .val (.int p4), .val (.int p5)] [])) _
    refine XS.iloadN X4.here hx rfl (hb hby d2_12) rfl ?_
    show Steps p.tables e below (T4.setTop (mkF m 13 #[.val (.ref a1), .val (.int p2), .val (.int p3), .val (.int p4), .val (.int p5)] [(.int p4)])) _
    refine XS.iloadN X4.here hx rfl (hb hby d2_13) rfl ?_
    show Steps p.tables e below (T4.setTop (mkF m 14 #[.val (.ref a1), .val (.int p2), .val (.int p3), .val (.int p4), .val (.int p5)] [(.int p2), (.int p4)])) _
    refine XS.icmpNo X4.here hx rfl (hb hby d2_14) rfl (tlt (q3 : p2 < p4)).2.2.2 ?_
    show Steps p.tables e below (T4.setTop (mkF m 17 #[.val (.ref a1), .val (.int p2), .val (.int p3), .val (.int p4), .val (.int p5)] [])) _
    refine XS.iload X4.here hx rfl (hb hby d2_17) rfl ?_
    show Steps p.tables e below (T4.setTop (mkF m 19 #[.val (.ref a1), .val (.int p2), .val (.int p3), .val (.int p4), .val (.int p5)] [(.int p5)])) _
    refine XS.iloadN X4.here hx rfl (hb hby d2_19) rfl ?_
    show Steps p.tables e below (T4.setTop (mkF m 20 #[.val (.ref a1), .val (.int p2), .val (.int p3), .val (.int p4), .val (.int p5)] [(.int p3), (.int p5)])) _
    refine XS.icmpYes X4.here hx rfl (pc0 := 20) (pc' := 47) rfl (hb hby d2_20) rfl (tlt (q4 : p3 < p5)).2.2.1 (by decide) (by decide) ?_
    show Steps p.tables e below (T4.setTop (mkF m 47 #[.val (.ref a1), .val (.int p2), .val (.int p3), .val (.int p4), .val (.int p5)] [])) _
    refine XS.aloadN X4.here hx rfl (hb hby d2_47) rfl rfl ?_
    show Steps p.tables e below (T4.setTop (mkF m 48 #[.val (.ref a1), .val (.int p2), .val (.int p3), .val (.int p4), .val (.int p5)] [(.ref a1)])) _
    refine XS.iloadN X4.here hx rfl (hb hby d2_48) rfl ?_
    show Steps p.tables e below (T4.setTop (mkF m 49 #[.val (.ref a1), .val (.int p2), .val (.int p3), .val (.int p4), .val (.int p5)] [(.int p2), (.ref a1)])) _
    refine st5 _ ?_
    show Steps p.tables e below (T5.setTop (mkF m 52 #[.val (.ref a1), .val (.int p2), .val (.int p3), .val (.int p4), .val (.int p5)] [])) _
    refine XS.aloadN X5.here hx rfl (hb hby d2_52) rfl rfl ?_
    show Steps p.tables e below (T5.setTop (mkF m 53 #[.val (.ref a1), .val (.int p2), .val (.int p3), .val (.int p4), .val (.int p5)] [(.ref a1)])) _
    refine XS.iloadN X5.here hx rfl (hb hby d2_53) rfl ?_
    show Steps p.tables e below (T5.setTop (mkF m 54 #[.val (.ref a1), .val (.int p2), .val (.int p3), .val (.int p4), .val (.int p5)] [(.int p3), (.ref a1)])) _
    refine st6 _ ?_
    show Steps p.tables e below (T6.setTop (mkF m 57 #[.val (.ref a1), .val (.int p2), .val (.int p3), .val (.int p4), .val (.int p5)] [])) _
    refine XS.aloadN X6.here hx rfl (hb hby d2_57) rfl rfl ?_
    show Steps p.tables e below (T6.setTop (mkF m 58 #[.val (.ref a1), .val (.int p2), .val (.int p3), .val (.int p4), .val (.int p5)] [(.ref a1)])) _
    refine XS.iloadN X6.here hx rfl (hb hby d2_58) rfl ?_
    show Steps p.tables e below (T6.setTop (mkF m 59 #[.val (.ref a1), .val (.int p2), .val (.int p3), .val (.int p4), .val (.int p5)] [(.int p4), (.ref a1)])) _
    refine st7 _ ?_
    show Steps p.tables e below (T7.setTop (mkF m 62 #[.val (.ref a1), .val (.int p2), .val (.int p3), .val (.int p4), .val (.int p5)] [])) _
    refine XS.aloadN X7.here hx rfl (hb hby d2_62) rfl rfl ?_
    show Steps p.tables e below (T7.setTop (mkF m 63 #[.val (.ref a1), .val (.int p2), .val (.int p3), .val (.int p4), .val (.int p5)] [(.ref a1)])) _
    refine XS.iload X7.here hx rfl (hb hby d2_63) rfl ?_
    show Steps p.tables e below (T7.setTop (mkF m 65 #[.val (.ref a1), .val (.int p2), .val (.int p3), .val (.int p4), .val (.int p5)] [(.int p5), (.ref a1)])) _
    refine st8 _ ?_
    show Steps p.tables e below (T8.setTop (mkF m 68 #[.val (.ref a1), .val (.int p2), .val (.int p3), .val (.int p4), .val (.int p5)] [])) _
    exact X8.returnOut hx Bd.returns (hb hby d2_68) hr
  · show Q_2 Z a1 p2 p3 p4 p5 u1 u2 u3 u4 h0 n0 _ T8.heap _
    rw [e8]
    exact ⟨rfl, N8, K8, ((((E_a1.wr W5).wr W6).wr W7).wr W8), (((Fw5.other W6 (Or.inr (slot_ne (Or.inr (hw _ (List.mem_of_getElem? (i := 20) rfl))) (Or.inr (hw _ (List.mem_of_getElem? (i := 22) rfl))) (by decide) (t := .int) (t' := .int) (by decide) (by decide)))).other W7 (Or.inr (slot_ne (Or.inr (hw _ (List.mem_of_getElem? (i := 20) rfl))) (Or.inr (hw _ (List.mem_of_getElem? (i := 24) rfl))) (by decide) (t := .int) (t' := .int) (by decide) (by decide)))).other W8 (Or.inr (slot_ne (Or.inr (hw _ (List.mem_of_getElem? (i := 20) rfl))) (Or.inr (hw _ (List.mem_of_getElem? (i := 26) rfl))) (by decide) (t := .int) (t' := .int) (by decide) (by decide)))), ((Fw6.other W7 (Or.inr (slot_ne (Or.inr (hw _ (List.mem_of_getElem? (i := 22) rfl))) (Or.inr (hw _ (List.mem_of_getElem? (i := 24) rfl))) (by decide) (t := .int) (t' := .int) (by decide) (by decide)))).other W8 (Or.inr (slot_ne (Or.inr (hw _ (List.mem_of_getElem? (i := 22) rfl))) (Or.inr (hw _ (List.mem_of_getElem? (i := 26) rfl))) (by decide) (t := .int) (t' := .int) (by decide) (by decide)))), (Fw7.other W8 (Or.inr (slot_ne (Or.inr (hw _ (List.mem_of_getElem? (i := 24) rfl))) (Or.inr (hw _ (List.mem_of_getElem? (i := 26) rfl))) (by decide) (t := .int) (t' := .int) (by decide) (by decide)))), Fw8⟩
theorem d5_0 : decode prog_47_method_2_code 0 = .ok (.aload_n 0, 1) := by decide +kernel
theorem d5_1 : decode prog_47_method_2_code 1 = .ok (.getfield 35, 3) := by decide +kernel
theorem d5_4 : decode prog_47_method_2_code 4 = .ok (.iload_n 1, 1) := by decide +kernel
theorem d5_5 : decode prog_47_method_2_code 5 = .ok (.if_icmp .gt 15, 3) := by decide +kernel
theorem d5_8 : decode prog_47_method_2_code 8 = .ok (.aload_n 0, 1) := by decide +kernel
theorem d5_9 : decode prog_47_method_2_code 9 = .ok (.getfield 38, 3) := by decide +kernel
theorem d5_12 : decode prog_47_method_2_code 12 = .ok (.iload_n 2, 1) := by decide +kernel
theorem d5_13 : decode prog_47_method_2_code 13 = .ok (.if_icmp .gt 7, 3) := by decide +kernel
theorem d5_16 : decode prog_47_method_2_code 16 = .ok (.iconst 1, 1) := by decide +kernel
theorem d5_17 : decode prog_47_method_2_code 17 = .ok (.goto 4, 3) := by decide +kernel
theorem d5_20 : decode prog_47_method_2_code 20 = .ok (.iconst 0, 1) := by decide +kernel
theorem d5_21 : decode prog_47_method_2_code 21 = .ok (.ireturn, 1) := by decide +kernel
theorem ef_5 (m : MethodId) (x0 : Addr) (x1 : Int32) (x2 : Int32) : entryFrame m #[(.ref x0), (.int x1), (.int x2)] 3 = mkF m 0 #[.val (.ref x0), .val (.int x1), .val (.int x2)] [] := by first | (simp [entryFrame, mkF, argsToLocals, Value.category]; done) | rfl
def Q_5 (Z : State) (a1 : Addr) (p2 : Int32) (p3 : Int32) (w1 w2 r : Int32) (h0 : Heap) (n0 : Nat) (v : Option Value) (h : Heap) (L : List Loc) : Prop := v = some (.int r) ∧ Fr n0 L ∧ h = h0
set_option maxRecDepth 65536 in
set_option maxHeartbeats 40000000 in
theorem rm_5 (l : Launch) (Z : State) (a0 : Array Value) (hw : ∀ d ∈ tables_1, d.before a0 Z = true) (ws : List Jvm.Cond) (a1 : Addr) (p2 : Int32) (p3 : Int32) (w1 w2 r : Int32) (h0 : Heap) (n0 : Nat) (Z0 : n0 ≤ h0.size) (F_r : Fld Z h0 a1 "com/example/frameloom/frameloom/queue/Crop" "right" "I" (.int w1)) (F_b : Fld Z h0 a1 "com/example/frameloom/frameloom/queue/Crop" "bottom" "I" (.int w2)) (hsp : own_fits w1 w2 p2 p3 = r) :
    MetFree l (⟨"com/example/frameloom/frameloom/queue/Crop", "fits", "(II)Z"⟩ : MethodName) (head1 (Jvm.Cond.code (⟨"com/example/frameloom/frameloom/queue/Crop", "fits", "(II)Z"⟩ : MethodName) prog_47_method_2_code 3 (some .boolean) :: ws) ({ frames := 0, cells := 0, slots := 0, locals := 0 } : Room)) (fun a U => a = #[(.ref a1), (.int p2), (.int p3)] ∧ Z.Warmed39 U.vm ∧ U.heap = h0) (fun _ _ _ _ _ => True) (fun _ U o U' => ∃ v L, o = .returned v ∧ Q_5 Z a1 p2 p3 w1 w2 r h0 n0 v U'.heap L ∧ FrameEnd U o U' L ({ frames := 0, cells := 0, slots := 0, locals := 0 } : Room).cells ({ frames := 0, cells := 0, slots := 0, locals := 0 } : Room).slots) := by
  refine MetFree.of_bodySF (plainFor_of_name pn_com_example_frameloom_frameloom_queue_Crop) hisR ?_
  intro p e s m args below meth c s₁ Bd hml0 hP hK
  obtain ⟨rfl, hZ, hh⟩ := hP
  have hx := Bd.exec
  have hby := Bd.bytes
  have hml : c.maxLocals = 3 := hml0
  have hown : s.vm.findClass "com/example/frameloom/frameloom/queue/Crop" = some m.cls := findClass_of_methodNamed Bd.named
  have hnm := (name_of_methodNamed Bd.named Bd.method).1
  have X0 : Stand p l e ({ frames := 0, cells := 0, slots := 0, locals := 0 } : Room) s m #[(.ref a1), (.int p2), (.int p3)] below meth c s₁ [] 0 0 := Stand.of_body Bd
  have e0 : s₁.heap = h0 := by rw [← hh, Bd.state]; rfl
  have N0 := Fr.nil n0
  have pw0 : ∀ t, Steps p.tables e below (s₁.setTop (mkF m 0 #[.val (.ref a1), .val (.int p2), .val (.int p3)] [])) t → Steps p.tables e below (s₁.setTop (entryFrame m #[(.ref a1), (.int p2), (.int p3)] 3)) t := fun t k => castTop (ef_5 m a1 p2 p3) k
  have K0 : Keep h0 h0 [] := Keep.refl h0 []
  obtain ⟨T9, X9, e9, st9⟩ := getF X0 hx hZ hown (host := "") (Or.inl (hw _ (List.mem_of_getElem? (i := 23) rfl))) Via.refl e0 F_r (g := (mkF m 1 #[.val (.ref a1), .val (.int p2), .val (.int p3)] [(.ref a1)])) rfl rfl (hb hby d5_1)
  have pw10 : ∀ t, Steps p.tables e below (T9.setTop (mkF m 5 #[.val (.ref a1), .val (.int p2), .val (.int p3)] [(.int p2), (.int w1)])) t → Steps p.tables e below (s₁.setTop (entryFrame m #[(.ref a1), (.int p2), (.int p3)] 3)) t := by
    intro t k
    refine pw0 t ?_
    refine XS.aloadN X0.here hx rfl (hb hby d5_0) rfl rfl ?_
    show Steps p.tables e below (s₁.setTop (mkF m 1 #[.val (.ref a1), .val (.int p2), .val (.int p3)] [(.ref a1)])) _
    refine st9 _ ?_
    show Steps p.tables e below (T9.setTop (mkF m 4 #[.val (.ref a1), .val (.int p2), .val (.int p3)] [(.int w1)])) _
    refine XS.iloadN X9.here hx rfl (hb hby d5_4) rfl ?_
    show Steps p.tables e below (T9.setTop (mkF m 5 #[.val (.ref a1), .val (.int p2), .val (.int p3)] [(.int p2), (.int w1)])) _
    exact k
  by_cases hc11 : p2 < w1
  · skip
    obtain ⟨fs, hr, hrun, hended, hW, hsame⟩ := X9.leave (v := some (.int (0 : Int32))) (fun h => by rw [Bd.returns] at h; cases h)
    refine ⟨_, _, pw10 _ ?_, hrun, hended, _, _, rfl, ?_, ⟨_, rfl⟩, hW, hsame.mono (by decide) (by decide)⟩
    · skip
      refine XS.icmpYes X9.here hx rfl (pc0 := 5) (pc' := 20) rfl (hb hby d5_5) rfl (tlt hc11).2.2.1 (by decide) (by decide) ?_
      show Steps p.tables e below (T9.setTop (mkF m 20 #[.val (.ref a1), .val (.int p2), .val (.int p3)] [])) _
      refine XS.iconst X9.here hx rfl (hb hby d5_20) ?_
      show Steps p.tables e below (T9.setTop (mkF m 21 #[.val (.ref a1), .val (.int p2), .val (.int p3)] [(.int (0 : Int32))])) _
      exact retN X9 hx (t := .boolean) Bd.returns (by simp) (hb hby d5_21) hr
    · show Q_5 Z a1 p2 p3 w1 w2 r h0 n0 _ T9.heap _
      rw [e9]
      exact ⟨by rw [← hsp]; unfold own_fits; rw [if_pos hc11], N0, rfl⟩
  · skip
    obtain ⟨T12, X12, e12, st12⟩ := getF X9 hx hZ hown (host := "") (Or.inl (hw _ (List.mem_of_getElem? (i := 25) rfl))) Via.refl e9 F_b (g := (mkF m 9 #[.val (.ref a1), .val (.int p2), .val (.int p3)] [(.ref a1)])) rfl rfl (hb hby d5_9)
    have pw13 : ∀ t, Steps p.tables e below (T12.setTop (mkF m 13 #[.val (.ref a1), .val (.int p2), .val (.int p3)] [(.int p3), (.int w2)])) t → Steps p.tables e below (s₁.setTop (entryFrame m #[(.ref a1), (.int p2), (.int p3)] 3)) t := by
      intro t k
      refine pw10 t ?_
      refine XS.icmpNo X9.here hx rfl (hb hby d5_5) rfl (flt hc11).2.2.1 ?_
      show Steps p.tables e below (T9.setTop (mkF m 8 #[.val (.ref a1), .val (.int p2), .val (.int p3)] [])) _
      refine XS.aloadN X9.here hx rfl (hb hby d5_8) rfl rfl ?_
      show Steps p.tables e below (T9.setTop (mkF m 9 #[.val (.ref a1), .val (.int p2), .val (.int p3)] [(.ref a1)])) _
      refine st12 _ ?_
      show Steps p.tables e below (T12.setTop (mkF m 12 #[.val (.ref a1), .val (.int p2), .val (.int p3)] [(.int w2)])) _
      refine XS.iloadN X12.here hx rfl (hb hby d5_12) rfl ?_
      show Steps p.tables e below (T12.setTop (mkF m 13 #[.val (.ref a1), .val (.int p2), .val (.int p3)] [(.int p3), (.int w2)])) _
      exact k
    by_cases hc14 : p3 < w2
    · skip
      obtain ⟨fs, hr, hrun, hended, hW, hsame⟩ := X12.leave (v := some (.int (0 : Int32))) (fun h => by rw [Bd.returns] at h; cases h)
      refine ⟨_, _, pw13 _ ?_, hrun, hended, _, _, rfl, ?_, ⟨_, rfl⟩, hW, hsame.mono (by decide) (by decide)⟩
      · skip
        refine XS.icmpYes X12.here hx rfl (pc0 := 13) (pc' := 20) rfl (hb hby d5_13) rfl (tlt hc14).2.2.1 (by decide) (by decide) ?_
        show Steps p.tables e below (T12.setTop (mkF m 20 #[.val (.ref a1), .val (.int p2), .val (.int p3)] [])) _
        refine XS.iconst X12.here hx rfl (hb hby d5_20) ?_
        show Steps p.tables e below (T12.setTop (mkF m 21 #[.val (.ref a1), .val (.int p2), .val (.int p3)] [(.int (0 : Int32))])) _
        exact retN X12 hx (t := .boolean) Bd.returns (by simp) (hb hby d5_21) hr
      · show Q_5 Z a1 p2 p3 w1 w2 r h0 n0 _ T12.heap _
        rw [e12]
        exact ⟨by rw [← hsp]; unfold own_fits; rw [if_neg hc11, if_pos hc14], N0, rfl⟩
    · skip
      obtain ⟨fs, hr, hrun, hended, hW, hsame⟩ := X12.leave (v := some (.int (1 : Int32))) (fun h => by rw [Bd.returns] at h; cases h)
      refine ⟨_, _, pw13 _ ?_, hrun, hended, _, _, rfl, ?_, ⟨_, rfl⟩, hW, hsame.mono (by decide) (by decide)⟩
      · skip
        refine XS.icmpNo X12.here hx rfl (hb hby d5_13) rfl (flt hc14).2.2.1 ?_
        show Steps p.tables e below (T12.setTop (mkF m 16 #[.val (.ref a1), .val (.int p2), .val (.int p3)] [])) _
        refine XS.iconst X12.here hx rfl (hb hby d5_16) ?_
        show Steps p.tables e below (T12.setTop (mkF m 17 #[.val (.ref a1), .val (.int p2), .val (.int p3)] [(.int (1 : Int32))])) _
        refine XS.goto X12.here hx rfl (pc0 := 17) (pc' := 21) rfl (hb hby d5_17) (by decide) (by decide) ?_
        show Steps p.tables e below (T12.setTop (mkF m 21 #[.val (.ref a1), .val (.int p2), .val (.int p3)] [(.int (1 : Int32))])) _
        exact retN X12 hx (t := .boolean) Bd.returns (by simp) (hb hby d5_21) hr
      · show Q_5 Z a1 p2 p3 w1 w2 r h0 n0 _ T12.heap _
        rw [e12]
        exact ⟨by rw [← hsp]; unfold own_fits; rw [if_neg hc11, if_neg hc14], N0, rfl⟩
theorem ef_0 (m : MethodId) (x0 : Int32) (x1 : Int32) (x2 : Int32) (x3 : Int32) (x4 : Int32) (x5 : Int32) : entryFrame m #[(.int x0), (.int x1), (.int x2), (.int x3), (.int x4), (.int x5)] maxLocals = mkF m 0 #[.val (.int x0), .val (.int x1), .val (.int x2), .val (.int x3), .val (.int x4), .val (.int x5), .unset, .unset, .unset, .unset, .unset, .unset, .unset, .unset, .unset, .unset, .unset] [] := by first | (simp [entryFrame, mkF, argsToLocals, Value.category, maxLocals]; done) | rfl
theorem pn_com_example_frameloom_frameloom_queue_CropFitsPinLaw : plainName "com/example/frameloom/frameloom/queue/CropFitsPinLaw" = true := by first | (simp [plainName, overriddenIn]; done) | decide +kernel
def Q_0 (Z : State) (x0 : Int32) (x1 : Int32) (x2 : Int32) (x3 : Int32) (x4 : Int32) (x5 : Int32) (R B : Int32) (h0 : Heap) (n0 : Nat) (v : Option Value) (h : Heap) (L : List Loc) : Prop := v = some (.int 1) ∧ Fr n0 L
set_option maxRecDepth 65536 in
set_option maxHeartbeats 40000000 in
theorem rm_0 (l : Launch) (Z : State) (a0 : Array Value) (hw : ∀ d ∈ tables_1, d.before a0 Z = true) (ws : List Jvm.Cond) (x0 : Int32) (x1 : Int32) (x2 : Int32) (x3 : Int32) (x4 : Int32) (x5 : Int32) (R B : Int32) (h0 : Heap) (n0 : Nat) (Z0 : n0 ≤ h0.size) (hR0 : own_max 1 (x2 &&& 2147483647) = R) (hB0 : own_max 1 (x3 &&& 2147483647) = B) (hR : (0 : Int32) < R) (hB : (0 : Int32) < B) :
    MetFree l x (head1 (Jvm.Cond.code x code maxLocals ret :: ws) room_1) (fun a U => a = #[(.int x0), (.int x1), (.int x2), (.int x3), (.int x4), (.int x5)] ∧ Z.Warmed39 U.vm ∧ U.heap = h0) (fun _ _ _ _ _ => True) (fun _ U o U' => ∃ v L, o = .returned v ∧ Q_0 Z x0 x1 x2 x3 x4 x5 R B h0 n0 v U'.heap L ∧ FrameEnd U o U' L room_1.cells room_1.slots) := by
  refine MetFree.of_bodySF (plainFor_of_name pn_com_example_frameloom_frameloom_queue_CropFitsPinLaw) hisR ?_
  intro p e s m args below meth c s₁ Bd hml0 hP hK
  obtain ⟨rfl, hZ, hh⟩ := hP
  have hx := Bd.exec
  have hby := Bd.bytes
  have hml : c.maxLocals = 17 := hml0
  have hown : s.vm.findClass "com/example/frameloom/frameloom/queue/CropFitsPinLaw" = some m.cls := findClass_of_methodNamed Bd.named
  have hnm := (name_of_methodNamed Bd.named Bd.method).1
  have X0 : Stand p l e room_1 s m #[(.int x0), (.int x1), (.int x2), (.int x3), (.int x4), (.int x5)] below meth c s₁ [] 0 0 := Stand.of_body Bd
  have e0 : s₁.heap = h0 := by rw [← hh, Bd.state]; rfl
  have N0 := Fr.nil n0
  have pw0 : ∀ t, Steps p.tables e below (s₁.setTop (mkF m 0 #[.val (.int x0), .val (.int x1), .val (.int x2), .val (.int x3), .val (.int x4), .val (.int x5), .unset, .unset, .unset, .unset, .unset, .unset, .unset, .unset, .unset, .unset, .unset] [])) t → Steps p.tables e below (s₁.setTop (entryFrame m #[(.int x0), (.int x1), (.int x2), (.int x3), (.int x4), (.int x5)] maxLocals)) t := fun t k => castTop (ef_0 m x0 x1 x2 x3 x4 x5) k
  have K0 : Keep h0 h0 [] := Keep.refl h0 []
  obtain ⟨_, _, ⟨T15, L15, k15, n15⟩, -, X15, ⟨Lc15, hQ15, l15, y15, z15⟩, st15⟩ := Jvm.LawKit.callS X0 hx (y := (⟨"java/lang/Math", "max", "(II)I"⟩ : MethodName)) hown (mvT hZ (hw _ (List.mem_of_getElem? (i := 1) rfl))) (mvT hZ (hw _ (List.mem_of_getElem? (i := 2) rfl))) (mvT hZ (hw _ (List.mem_of_getElem? (i := 3) rfl))) (mvT hZ (hw _ (List.mem_of_getElem? (i := 4) rfl))) (by decide) (backOf (W := 0) (rm_1 l Z a0 hw [] (1 : Int32) (x2 &&& (2147483647 : Int32)) R h0 n0 Z0 hR0) hZ (hw _ (List.mem_of_getElem? (i := 4) rfl)) (hw _ (List.mem_of_getElem? (i := 3) rfl)) (by decide) (by decide)) (g := (mkF m 5 #[.val (.int x0), .val (.int x1), .val (.int x2), .val (.int x3), .val (.int x4), .val (.int x5), .unset, .unset, .unset, .unset, .unset, .unset, .unset, .unset, .unset, .unset, .unset] [(.int (x2 &&& (2147483647 : Int32))), (.int (1 : Int32))])) rfl (by rw [hml]; rfl) (argsL := [(.int (1 : Int32)), (.int (x2 &&& (2147483647 : Int32)))]) (rest := []) (lenOf pd__II_I rfl) rfl (by show 2 * 0 + _ ≤ _; exact Nat.le_of_eq rfl) (hb hby at_5) (fun _ _ => ⟨rfl, e0, (by decide : 0 + 0 ≤ _), (by decide : 0 + 0 ≤ _)⟩)
  dsimp only [Pt.U, Pt.locs, Pt.cells, Pt.slots] at X15 l15 y15 z15 st15 hQ15
  subst l15 y15 z15
  obtain ⟨rfl, N15q, e15q⟩ := hQ15
  have N15 := Fr.app N0 N15q
  obtain ⟨_, _, ⟨T16, L16, k16, n16⟩, -, X16, ⟨Lc16, hQ16, l16, y16, z16⟩, st16⟩ := Jvm.LawKit.callS X15 hx (y := (⟨"java/lang/Math", "max", "(II)I"⟩ : MethodName)) hown (mvT hZ (hw _ (List.mem_of_getElem? (i := 1) rfl))) (mvT hZ (hw _ (List.mem_of_getElem? (i := 2) rfl))) (mvT hZ (hw _ (List.mem_of_getElem? (i := 3) rfl))) (mvT hZ (hw _ (List.mem_of_getElem? (i := 4) rfl))) (by decide) (backOf (W := 0) (rm_1 l Z a0 hw [] (1 : Int32) (x3 &&& (2147483647 : Int32)) B h0 n0 Z0 hB0) hZ (hw _ (List.mem_of_getElem? (i := 4) rfl)) (hw _ (List.mem_of_getElem? (i := 3) rfl)) (by decide) (by decide)) (g := (mkF m 15 #[.val (.int x0), .val (.int x1), .val (.int x2), .val (.int x3), .val (.int x4), .val (.int x5), .val (.int R), .unset, .unset, .unset, .unset, .unset, .unset, .unset, .unset, .unset, .unset] [(.int (x3 &&& (2147483647 : Int32))), (.int (1 : Int32))])) rfl (by rw [hml]; rfl) (argsL := [(.int (1 : Int32)), (.int (x3 &&& (2147483647 : Int32)))]) (rest := []) (lenOf pd__II_I rfl) rfl (by show 2 * 0 + _ ≤ _; exact Nat.le_of_eq rfl) (hb hby at_15) (fun _ _ => ⟨rfl, e15q, (by decide : 0 + 0 ≤ _), (by decide : 0 + 0 ≤ _)⟩)
  dsimp only [Pt.U, Pt.locs, Pt.cells, Pt.slots] at X16 l16 y16 z16 st16 hQ16
  subst l16 y16 z16
  obtain ⟨rfl, N16q, e16q⟩ := hQ16
  have N16 := Fr.app N15 N16q
  obtain ⟨T17, h17, X17, e17, E17, A17, D17, -, st17⟩ := newO X16 hx hZ hown (hw _ (List.mem_of_getElem? (i := 5) rfl)) (hw _ (List.mem_of_getElem? (i := 6) rfl)) (hw _ (List.mem_of_getElem? (i := 7) rfl)) e16q (g := (mkF m 38 #[.val (.int x0), .val (.int x1), .val (.int x2), .val (.int x3), .val (.int x4), .val (.int x5), .val (.int R), .val (.int B), .val (.int ((x0 &&& (2147483647 : Int32)) % R)), .val (.int ((x1 &&& (2147483647 : Int32)) % B)), .unset, .unset, .unset, .unset, .unset, .unset, .unset] [])) rfl (hb hby at_38) (by decide) (by decide)
  obtain ⟨b17, g17⟩ : ∃ z, z = h0.size := ⟨_, rfl⟩
  rw [← g17] at A17 D17 st17
  have g_b17 : n0 ≤ b17 := Nat.le_trans Z0 (Nat.le_of_eq g17.symm)
  have sz_b17 : h0.size ≤ b17 := Nat.le_trans K0.1 (Nat.le_of_eq g17.symm)
  have F_left_b17 : Fld Z h17 b17 "com/example/frameloom/frameloom/queue/Crop" "left" "I" (.int (0 : Int32)) := D17 (Or.inr (hw _ (List.mem_of_getElem? (i := 20) rfl))) (ty := .int) (by decide)
  have F_top_b17 : Fld Z h17 b17 "com/example/frameloom/frameloom/queue/Crop" "top" "I" (.int (0 : Int32)) := D17 (Or.inr (hw _ (List.mem_of_getElem? (i := 22) rfl))) (ty := .int) (by decide)
  have F_right_b17 : Fld Z h17 b17 "com/example/frameloom/frameloom/queue/Crop" "right" "I" (.int (0 : Int32)) := D17 (Or.inr (hw _ (List.mem_of_getElem? (i := 24) rfl))) (ty := .int) (by decide)
  have F_bottom_b17 : Fld Z h17 b17 "com/example/frameloom/frameloom/queue/Crop" "bottom" "I" (.int (0 : Int32)) := D17 (Or.inr (hw _ (List.mem_of_getElem? (i := 26) rfl))) (ty := .int) (by decide)
  have K17 : Keep h0 h17 [] := K0.ext E17
  have Z17 : n0 ≤ h17.size := (Nat.le_trans Z0 E17.1)
  obtain ⟨_, _, ⟨T18, L18, k18, n18⟩, -, X18, ⟨Lc18, hQ18, l18, y18, z18⟩, st18⟩ := X17.specialBack hx (y := (⟨"com/example/frameloom/frameloom/queue/Crop", "<init>", "(IIII)V"⟩ : MethodName)) rfl hown (mvT hZ (hw _ (List.mem_of_getElem? (i := 8) rfl))) (mvT hZ (hw _ (List.mem_of_getElem? (i := 9) rfl))) (mvT hZ (hw _ (List.mem_of_getElem? (i := 10) rfl))) (by decide) (backOf (W := 1) (rm_2 l Z a0 hw [] b17 ((x0 &&& (2147483647 : Int32)) % R) ((x1 &&& (2147483647 : Int32)) % B) R B _ _ _ _ h17 n0 Z17 A17 F_left_b17 F_top_b17 F_right_b17 F_bottom_b17 g_b17 (own_left x0 R hR).1 (own_left x1 B hB).1 (own_left x0 R hR).2 (own_left x1 B hB).2) hZ (hw _ (List.mem_of_getElem? (i := 10) rfl)) (hw _ (List.mem_of_getElem? (i := 7) rfl)) (by decide) (by decide)) (g := (mkF m 50 #[.val (.int x0), .val (.int x1), .val (.int x2), .val (.int x3), .val (.int x4), .val (.int x5), .val (.int R), .val (.int B), .val (.int ((x0 &&& (2147483647 : Int32)) % R)), .val (.int ((x1 &&& (2147483647 : Int32)) % B)), .unset, .unset, .unset, .unset, .unset, .unset, .unset] [(.int B), (.int R), (.int ((x1 &&& (2147483647 : Int32)) % B)), (.int ((x0 &&& (2147483647 : Int32)) % R)), (.ref b17), (.ref b17)])) rfl (by rw [hml]; rfl) (Steps.refl _) (a := b17) (argsL := [(.int ((x0 &&& (2147483647 : Int32)) % R)), (.int ((x1 &&& (2147483647 : Int32)) % B)), (.int R), (.int B)]) (rest := [(.ref b17)]) (lenOf pd__IIII_V rfl) rfl (by show 2 * 0 + _ ≤ _; exact Nat.le_of_eq rfl) (hb hby at_50) (fun _ _ => ⟨rfl, e17, (by decide : 1 + 0 ≤ _), (by decide : 4 + 0 ≤ _)⟩)
  dsimp only [Pt.U, Pt.locs, Pt.cells, Pt.slots] at X18 l18 y18 z18 st18 hQ18
  subst l18 y18 z18
  obtain ⟨rfl, N18q, K18q, E18q, F018q, F118q, F218q, F318q⟩ := hQ18
  have N18 := Fr.app N16 N18q
  have K18 : Keep h0 T18.heap [] := K17.trans K18q (allS (P := fun x => x ∈ [] ∨ h0.size ≤ x) (Or.inr sz_b17) all0)
  have Z18 : n0 ≤ T18.heap.size := (Nat.le_trans Z17 K18q.1)
  have pw19 : ∀ t, Steps p.tables e below (T18.setTop (mkF m 75 #[.val (.int x0), .val (.int x1), .val (.int x2), .val (.int x3), .val (.int x4), .val (.int x5), .val (.int R), .val (.int B), .val (.int ((x0 &&& (2147483647 : Int32)) % R)), .val (.int ((x1 &&& (2147483647 : Int32)) % B)), .val (.ref b17), .val (.long ((R.toInt64) - (1 : Int64))), .second, .val (.long ((B.toInt64) - (1 : Int64))), .second, .unset, .unset] [(.int (lcmpW ((R.toInt64) - (1 : Int64)) (x4.toInt64)))])) t → Steps p.tables e below (s₁.setTop (entryFrame m #[(.int x0), (.int x1), (.int x2), (.int x3), (.int x4), (.int x5)] maxLocals)) t := by
    intro t k
    refine pw0 t ?_
    refine XS.iconst X0.here hx rfl (hb hby at_0) ?_
    show Steps p.tables e below (s₁.setTop (mkF m 1 #[.val (.int x0), .val (.int x1), .val (.int x2), .val (.int x3), .val (.int x4), .val (.int x5), .unset, .unset, .unset, .unset, .unset, .unset, .unset, .unset, .unset, .unset, .unset] [(.int (1 : Int32))])) _
    refine XS.iloadN X0.here hx rfl (hb hby at_1) rfl ?_
    show Steps p.tables e below (s₁.setTop (mkF m 2 #[.val (.int x0), .val (.int x1), .val (.int x2), .val (.int x3), .val (.int x4), .val (.int x5), .unset, .unset, .unset, .unset, .unset, .unset, .unset, .unset, .unset, .unset, .unset] [(.int x2), (.int (1 : Int32))])) _
    refine X0.ldcInt hx hown (mvT hZ (hw _ (List.mem_of_getElem? (i := 0) rfl))) (g := (mkF m 2 #[.val (.int x0), .val (.int x1), .val (.int x2), .val (.int x3), .val (.int x4), .val (.int x5), .unset, .unset, .unset, .unset, .unset, .unset, .unset, .unset, .unset, .unset, .unset] [(.int x2), (.int (1 : Int32))])) rfl (hb hby at_2) _ ?_
    show Steps p.tables e below (s₁.setTop (mkF m 4 #[.val (.int x0), .val (.int x1), .val (.int x2), .val (.int x3), .val (.int x4), .val (.int x5), .unset, .unset, .unset, .unset, .unset, .unset, .unset, .unset, .unset, .unset, .unset] [(.int (2147483647 : Int32)), (.int x2), (.int (1 : Int32))])) _
    refine XS.iand X0.here hx rfl (hb hby at_4) rfl ?_
    show Steps p.tables e below (s₁.setTop (mkF m 5 #[.val (.int x0), .val (.int x1), .val (.int x2), .val (.int x3), .val (.int x4), .val (.int x5), .unset, .unset, .unset, .unset, .unset, .unset, .unset, .unset, .unset, .unset, .unset] [(.int (x2 &&& (2147483647 : Int32))), (.int (1 : Int32))])) _
    refine st15 _ ?_
    show Steps p.tables e below (T15.setTop (mkF m 8 #[.val (.int x0), .val (.int x1), .val (.int x2), .val (.int x3), .val (.int x4), .val (.int x5), .unset, .unset, .unset, .unset, .unset, .unset, .unset, .unset, .unset, .unset, .unset] [(.int R)])) _
    refine XS.istore X15.here hx rfl (hb hby at_8) rfl (l' := #[.val (.int x0), .val (.int x1), .val (.int x2), .val (.int x3), .val (.int x4), .val (.int x5), .val (.int R), .unset, .unset, .unset, .unset, .unset, .unset, .unset, .unset, .unset, .unset]) rfl ?_
    show Steps p.tables e below (T15.setTop (mkF m 10 #[.val (.int x0), .val (.int x1), .val (.int x2), .val (.int x3), .val (.int x4), .val (.int x5), .val (.int R), .unset, .unset, .unset, .unset, .unset, .unset, .unset, .unset, .unset, .unset] [])) _
    refine XS.iconst X15.here hx rfl (hb hby at_10) ?_
    show Steps p.tables e below (T15.setTop (mkF m 11 #[.val (.int x0), .val (.int x1), .val (.int x2), .val (.int x3), .val (.int x4), .val (.int x5), .val (.int R), .unset, .unset, .unset, .unset, .unset, .unset, .unset, .unset, .unset, .unset] [(.int (1 : Int32))])) _
    refine XS.iloadN X15.here hx rfl (hb hby at_11) rfl ?_
    show Steps p.tables e below (T15.setTop (mkF m 12 #[.val (.int x0), .val (.int x1), .val (.int x2), .val (.int x3), .val (.int x4), .val (.int x5), .val (.int R), .unset, .unset, .unset, .unset, .unset, .unset, .unset, .unset, .unset, .unset] [(.int x3), (.int (1 : Int32))])) _
    refine X15.ldcInt hx hown (mvT hZ (hw _ (List.mem_of_getElem? (i := 0) rfl))) (g := (mkF m 12 #[.val (.int x0), .val (.int x1), .val (.int x2), .val (.int x3), .val (.int x4), .val (.int x5), .val (.int R), .unset, .unset, .unset, .unset, .unset, .unset, .unset, .unset, .unset, .unset] [(.int x3), (.int (1 : Int32))])) rfl (hb hby at_12) _ ?_
    show Steps p.tables e below (T15.setTop (mkF m 14 #[.val (.int x0), .val (.int x1), .val (.int x2), .val (.int x3), .val (.int x4), .val (.int x5), .val (.int R), .unset, .unset, .unset, .unset, .unset, .unset, .unset, .unset, .unset, .unset] [(.int (2147483647 : Int32)), (.int x3), (.int (1 : Int32))])) _
    refine XS.iand X15.here hx rfl (hb hby at_14) rfl ?_
    show Steps p.tables e below (T15.setTop (mkF m 15 #[.val (.int x0), .val (.int x1), .val (.int x2), .val (.int x3), .val (.int x4), .val (.int x5), .val (.int R), .unset, .unset, .unset, .unset, .unset, .unset, .unset, .unset, .unset, .unset] [(.int (x3 &&& (2147483647 : Int32))), (.int (1 : Int32))])) _
    refine st16 _ ?_
    show Steps p.tables e below (T16.setTop (mkF m 18 #[.val (.int x0), .val (.int x1), .val (.int x2), .val (.int x3), .val (.int x4), .val (.int x5), .val (.int R), .unset, .unset, .unset, .unset, .unset, .unset, .unset, .unset, .unset, .unset] [(.int B)])) _
    refine XS.istore X16.here hx rfl (hb hby at_18) rfl (l' := #[.val (.int x0), .val (.int x1), .val (.int x2), .val (.int x3), .val (.int x4), .val (.int x5), .val (.int R), .val (.int B), .unset, .unset, .unset, .unset, .unset, .unset, .unset, .unset, .unset]) rfl ?_
    show Steps p.tables e below (T16.setTop (mkF m 20 #[.val (.int x0), .val (.int x1), .val (.int x2), .val (.int x3), .val (.int x4), .val (.int x5), .val (.int R), .val (.int B), .unset, .unset, .unset, .unset, .unset, .unset, .unset, .unset, .unset] [])) _
    refine XS.iloadN X16.here hx rfl (hb hby at_20) rfl ?_
    show Steps p.tables e below (T16.setTop (mkF m 21 #[.val (.int x0), .val (.int x1), .val (.int x2), .val (.int x3), .val (.int x4), .val (.int x5), .val (.int R), .val (.int B), .unset, .unset, .unset, .unset, .unset, .unset, .unset, .unset, .unset] [(.int x0)])) _
    refine X16.ldcInt hx hown (mvT hZ (hw _ (List.mem_of_getElem? (i := 0) rfl))) (g := (mkF m 21 #[.val (.int x0), .val (.int x1), .val (.int x2), .val (.int x3), .val (.int x4), .val (.int x5), .val (.int R), .val (.int B), .unset, .unset, .unset, .unset, .unset, .unset, .unset, .unset, .unset] [(.int x0)])) rfl (hb hby at_21) _ ?_
    show Steps p.tables e below (T16.setTop (mkF m 23 #[.val (.int x0), .val (.int x1), .val (.int x2), .val (.int x3), .val (.int x4), .val (.int x5), .val (.int R), .val (.int B), .unset, .unset, .unset, .unset, .unset, .unset, .unset, .unset, .unset] [(.int (2147483647 : Int32)), (.int x0)])) _
    refine XS.iand X16.here hx rfl (hb hby at_23) rfl ?_
    show Steps p.tables e below (T16.setTop (mkF m 24 #[.val (.int x0), .val (.int x1), .val (.int x2), .val (.int x3), .val (.int x4), .val (.int x5), .val (.int R), .val (.int B), .unset, .unset, .unset, .unset, .unset, .unset, .unset, .unset, .unset] [(.int (x0 &&& (2147483647 : Int32)))])) _
    refine XS.iload X16.here hx rfl (hb hby at_24) rfl ?_
    show Steps p.tables e below (T16.setTop (mkF m 26 #[.val (.int x0), .val (.int x1), .val (.int x2), .val (.int x3), .val (.int x4), .val (.int x5), .val (.int R), .val (.int B), .unset, .unset, .unset, .unset, .unset, .unset, .unset, .unset, .unset] [(.int R), (.int (x0 &&& (2147483647 : Int32)))])) _
    refine iremM (g := (mkF m 26 #[.val (.int x0), .val (.int x1), .val (.int x2), .val (.int x3), .val (.int x4), .val (.int x5), .val (.int R), .val (.int B), .unset, .unset, .unset, .unset, .unset, .unset, .unset, .unset, .unset] [(.int R), (.int (x0 &&& (2147483647 : Int32)))])) X16 hx rfl (hb hby at_26) rfl (own_nz R hR) ?_
    show Steps p.tables e below (T16.setTop (mkF m 27 #[.val (.int x0), .val (.int x1), .val (.int x2), .val (.int x3), .val (.int x4), .val (.int x5), .val (.int R), .val (.int B), .unset, .unset, .unset, .unset, .unset, .unset, .unset, .unset, .unset] [(.int ((x0 &&& (2147483647 : Int32)) % R))])) _
    refine XS.istore X16.here hx rfl (hb hby at_27) rfl (l' := #[.val (.int x0), .val (.int x1), .val (.int x2), .val (.int x3), .val (.int x4), .val (.int x5), .val (.int R), .val (.int B), .val (.int ((x0 &&& (2147483647 : Int32)) % R)), .unset, .unset, .unset, .unset, .unset, .unset, .unset, .unset]) rfl ?_
    show Steps p.tables e below (T16.setTop (mkF m 29 #[.val (.int x0), .val (.int x1), .val (.int x2), .val (.int x3), .val (.int x4), .val (.int x5), .val (.int R), .val (.int B), .val (.int ((x0 &&& (2147483647 : Int32)) % R)), .unset, .unset, .unset, .unset, .unset, .unset, .unset, .unset] [])) _
    refine XS.iloadN X16.here hx rfl (hb hby at_29) rfl ?_
    show Steps p.tables e below (T16.setTop (mkF m 30 #[.val (.int x0), .val (.int x1), .val (.int x2), .val (.int x3), .val (.int x4), .val (.int x5), .val (.int R), .val (.int B), .val (.int ((x0 &&& (2147483647 : Int32)) % R)), .unset, .unset, .unset, .unset, .unset, .unset, .unset, .unset] [(.int x1)])) _
    refine X16.ldcInt hx hown (mvT hZ (hw _ (List.mem_of_getElem? (i := 0) rfl))) (g := (mkF m 30 #[.val (.int x0), .val (.int x1), .val (.int x2), .val (.int x3), .val (.int x4), .val (.int x5), .val (.int R), .val (.int B), .val (.int ((x0 &&& (2147483647 : Int32)) % R)), .unset, .unset, .unset, .unset, .unset, .unset, .unset, .unset] [(.int x1)])) rfl (hb hby at_30) _ ?_
    show Steps p.tables e below (T16.setTop (mkF m 32 #[.val (.int x0), .val (.int x1), .val (.int x2), .val (.int x3), .val (.int x4), .val (.int x5), .val (.int R), .val (.int B), .val (.int ((x0 &&& (2147483647 : Int32)) % R)), .unset, .unset, .unset, .unset, .unset, .unset, .unset, .unset] [(.int (2147483647 : Int32)), (.int x1)])) _
    refine XS.iand X16.here hx rfl (hb hby at_32) rfl ?_
    show Steps p.tables e below (T16.setTop (mkF m 33 #[.val (.int x0), .val (.int x1), .val (.int x2), .val (.int x3), .val (.int x4), .val (.int x5), .val (.int R), .val (.int B), .val (.int ((x0 &&& (2147483647 : Int32)) % R)), .unset, .unset, .unset, .unset, .unset, .unset, .unset, .unset] [(.int (x1 &&& (2147483647 : Int32)))])) _
    refine XS.iload X16.here hx rfl (hb hby at_33) rfl ?_
    show Steps p.tables e below (T16.setTop (mkF m 35 #[.val (.int x0), .val (.int x1), .val (.int x2), .val (.int x3), .val (.int x4), .val (.int x5), .val (.int R), .val (.int B), .val (.int ((x0 &&& (2147483647 : Int32)) % R)), .unset, .unset, .unset, .unset, .unset, .unset, .unset, .unset] [(.int B), (.int (x1 &&& (2147483647 : Int32)))])) _
    refine iremM (g := (mkF m 35 #[.val (.int x0), .val (.int x1), .val (.int x2), .val (.int x3), .val (.int x4), .val (.int x5), .val (.int R), .val (.int B), .val (.int ((x0 &&& (2147483647 : Int32)) % R)), .unset, .unset, .unset, .unset, .unset, .unset, .unset, .unset] [(.int B), (.int (x1 &&& (2147483647 : Int32)))])) X16 hx rfl (hb hby at_35) rfl (own_nz B hB) ?_
    show Steps p.tables e below (T16.setTop (mkF m 36 #[.val (.int x0), .val (.int x1), .val (.int x2), .val (.int x3), .val (.int x4), .val (.int x5), .val (.int R), .val (.int B), .val (.int ((x0 &&& (2147483647 : Int32)) % R)), .unset, .unset, .unset, .unset, .unset, .unset, .unset, .unset] [(.int ((x1 &&& (2147483647 : Int32)) % B))])) _
    refine XS.istore X16.here hx rfl (hb hby at_36) rfl (l' := #[.val (.int x0), .val (.int x1), .val (.int x2), .val (.int x3), .val (.int x4), .val (.int x5), .val (.int R), .val (.int B), .val (.int ((x0 &&& (2147483647 : Int32)) % R)), .val (.int ((x1 &&& (2147483647 : Int32)) % B)), .unset, .unset, .unset, .unset, .unset, .unset, .unset]) rfl ?_
    show Steps p.tables e below (T16.setTop (mkF m 38 #[.val (.int x0), .val (.int x1), .val (.int x2), .val (.int x3), .val (.int x4), .val (.int x5), .val (.int R), .val (.int B), .val (.int ((x0 &&& (2147483647 : Int32)) % R)), .val (.int ((x1 &&& (2147483647 : Int32)) % B)), .unset, .unset, .unset, .unset, .unset, .unset, .unset] [])) _
    refine st17 _ ?_
    show Steps p.tables e below (T17.setTop (mkF m 41 #[.val (.int x0), .val (.int x1), .val (.int x2), .val (.int x3), .val (.int x4), .val (.int x5), .val (.int R), .val (.int B), .val (.int ((x0 &&& (2147483647 : Int32)) % R)), .val (.int ((x1 &&& (2147483647 : Int32)) % B)), .unset, .unset, .unset, .unset, .unset, .unset, .unset] [(.ref b17)])) _
    refine XS.dup X17.here hx rfl (hb hby at_41) rfl rfl ?_
    show Steps p.tables e below (T17.setTop (mkF m 42 #[.val (.int x0), .val (.int x1), .val (.int x2), .val (.int x3), .val (.int x4), .val (.int x5), .val (.int R), .val (.int B), .val (.int ((x0 &&& (2147483647 : Int32)) % R)), .val (.int ((x1 &&& (2147483647 : Int32)) % B)), .unset, .unset, .unset, .unset, .unset, .unset, .unset] [(.ref b17), (.ref b17)])) _
    refine XS.iload X17.here hx rfl (hb hby at_42) rfl ?_
    show Steps p.tables e below (T17.setTop (mkF m 44 #[.val (.int x0), .val (.int x1), .val (.int x2), .val (.int x3), .val (.int x4), .val (.int x5), .val (.int R), .val (.int B), .val (.int ((x0 &&& (2147483647 : Int32)) % R)), .val (.int ((x1 &&& (2147483647 : Int32)) % B)), .unset, .unset, .unset, .unset, .unset, .unset, .unset] [(.int ((x0 &&& (2147483647 : Int32)) % R)), (.ref b17), (.ref b17)])) _
    refine XS.iload X17.here hx rfl (hb hby at_44) rfl ?_
    show Steps p.tables e below (T17.setTop (mkF m 46 #[.val (.int x0), .val (.int x1), .val (.int x2), .val (.int x3), .val (.int x4), .val (.int x5), .val (.int R), .val (.int B), .val (.int ((x0 &&& (2147483647 : Int32)) % R)), .val (.int ((x1 &&& (2147483647 : Int32)) % B)), .unset, .unset, .unset, .unset, .unset, .unset, .unset] [(.int ((x1 &&& (2147483647 : Int32)) % B)), (.int ((x0 &&& (2147483647 : Int32)) % R)), (.ref b17), (.ref b17)])) _
    refine XS.iload X17.here hx rfl (hb hby at_46) rfl ?_
    show Steps p.tables e below (T17.setTop (mkF m 48 #[.val (.int x0), .val (.int x1), .val (.int x2), .val (.int x3), .val (.int x4), .val (.int x5), .val (.int R), .val (.int B), .val (.int ((x0 &&& (2147483647 : Int32)) % R)), .val (.int ((x1 &&& (2147483647 : Int32)) % B)), .unset, .unset, .unset, .unset, .unset, .unset, .unset] [(.int R), (.int ((x1 &&& (2147483647 : Int32)) % B)), (.int ((x0 &&& (2147483647 : Int32)) % R)), (.ref b17), (.ref b17)])) _
    refine XS.iload X17.here hx rfl (hb hby at_48) rfl ?_
    show Steps p.tables e below (T17.setTop (mkF m 50 #[.val (.int x0), .val (.int x1), .val (.int x2), .val (.int x3), .val (.int x4), .val (.int x5), .val (.int R), .val (.int B), .val (.int ((x0 &&& (2147483647 : Int32)) % R)), .val (.int ((x1 &&& (2147483647 : Int32)) % B)), .unset, .unset, .unset, .unset, .unset, .unset, .unset] [(.int B), (.int R), (.int ((x1 &&& (2147483647 : Int32)) % B)), (.int ((x0 &&& (2147483647 : Int32)) % R)), (.ref b17), (.ref b17)])) _
    refine st18.trans ?_
    show Steps p.tables e below (T18.setTop (mkF m 53 #[.val (.int x0), .val (.int x1), .val (.int x2), .val (.int x3), .val (.int x4), .val (.int x5), .val (.int R), .val (.int B), .val (.int ((x0 &&& (2147483647 : Int32)) % R)), .val (.int ((x1 &&& (2147483647 : Int32)) % B)), .unset, .unset, .unset, .unset, .unset, .unset, .unset] [(.ref b17)])) _
    refine XS.astore X18.here hx rfl (hb hby at_53) rfl rfl (l' := #[.val (.int x0), .val (.int x1), .val (.int x2), .val (.int x3), .val (.int x4), .val (.int x5), .val (.int R), .val (.int B), .val (.int ((x0 &&& (2147483647 : Int32)) % R)), .val (.int ((x1 &&& (2147483647 : Int32)) % B)), .val (.ref b17), .unset, .unset, .unset, .unset, .unset, .unset]) rfl ?_
    show Steps p.tables e below (T18.setTop (mkF m 55 #[.val (.int x0), .val (.int x1), .val (.int x2), .val (.int x3), .val (.int x4), .val (.int x5), .val (.int R), .val (.int B), .val (.int ((x0 &&& (2147483647 : Int32)) % R)), .val (.int ((x1 &&& (2147483647 : Int32)) % B)), .val (.ref b17), .unset, .unset, .unset, .unset, .unset, .unset] [])) _
    refine XS.iload X18.here hx rfl (hb hby at_55) rfl ?_
    show Steps p.tables e below (T18.setTop (mkF m 57 #[.val (.int x0), .val (.int x1), .val (.int x2), .val (.int x3), .val (.int x4), .val (.int x5), .val (.int R), .val (.int B), .val (.int ((x0 &&& (2147483647 : Int32)) % R)), .val (.int ((x1 &&& (2147483647 : Int32)) % B)), .val (.ref b17), .unset, .unset, .unset, .unset, .unset, .unset] [(.int R)])) _
    refine XS.i2l X18.here hx rfl (hb hby at_57) rfl ?_
    show Steps p.tables e below (T18.setTop (mkF m 58 #[.val (.int x0), .val (.int x1), .val (.int x2), .val (.int x3), .val (.int x4), .val (.int x5), .val (.int R), .val (.int B), .val (.int ((x0 &&& (2147483647 : Int32)) % R)), .val (.int ((x1 &&& (2147483647 : Int32)) % B)), .val (.ref b17), .unset, .unset, .unset, .unset, .unset, .unset] [(.long (R.toInt64))])) _
    refine XS.lconst X18.here hx rfl (hb hby at_58) ?_
    show Steps p.tables e below (T18.setTop (mkF m 59 #[.val (.int x0), .val (.int x1), .val (.int x2), .val (.int x3), .val (.int x4), .val (.int x5), .val (.int R), .val (.int B), .val (.int ((x0 &&& (2147483647 : Int32)) % R)), .val (.int ((x1 &&& (2147483647 : Int32)) % B)), .val (.ref b17), .unset, .unset, .unset, .unset, .unset, .unset] [(.long (1 : Int64)), (.long (R.toInt64))])) _
    refine XS.lsub X18.here hx rfl (hb hby at_59) rfl ?_
    show Steps p.tables e below (T18.setTop (mkF m 60 #[.val (.int x0), .val (.int x1), .val (.int x2), .val (.int x3), .val (.int x4), .val (.int x5), .val (.int R), .val (.int B), .val (.int ((x0 &&& (2147483647 : Int32)) % R)), .val (.int ((x1 &&& (2147483647 : Int32)) % B)), .val (.ref b17), .unset, .unset, .unset, .unset, .unset, .unset] [(.long ((R.toInt64) - (1 : Int64)))])) _
    refine XS.lstore X18.here hx rfl (hb hby at_60) rfl (l' := #[.val (.int x0), .val (.int x1), .val (.int x2), .val (.int x3), .val (.int x4), .val (.int x5), .val (.int R), .val (.int B), .val (.int ((x0 &&& (2147483647 : Int32)) % R)), .val (.int ((x1 &&& (2147483647 : Int32)) % B)), .val (.ref b17), .val (.long ((R.toInt64) - (1 : Int64))), .second, .unset, .unset, .unset, .unset]) rfl ?_
    show Steps p.tables e below (T18.setTop (mkF m 62 #[.val (.int x0), .val (.int x1), .val (.int x2), .val (.int x3), .val (.int x4), .val (.int x5), .val (.int R), .val (.int B), .val (.int ((x0 &&& (2147483647 : Int32)) % R)), .val (.int ((x1 &&& (2147483647 : Int32)) % B)), .val (.ref b17), .val (.long ((R.toInt64) - (1 : Int64))), .second, .unset, .unset, .unset, .unset] [])) _
    refine XS.iload X18.here hx rfl (hb hby at_62) rfl ?_
    show Steps p.tables e below (T18.setTop (mkF m 64 #[.val (.int x0), .val (.int x1), .val (.int x2), .val (.int x3), .val (.int x4), .val (.int x5), .val (.int R), .val (.int B), .val (.int ((x0 &&& (2147483647 : Int32)) % R)), .val (.int ((x1 &&& (2147483647 : Int32)) % B)), .val (.ref b17), .val (.long ((R.toInt64) - (1 : Int64))), .second, .unset, .unset, .unset, .unset] [(.int B)])) _
    refine XS.i2l X18.here hx rfl (hb hby at_64) rfl ?_
    show Steps p.tables e below (T18.setTop (mkF m 65 #[.val (.int x0), .val (.int x1), .val (.int x2), .val (.int x3), .val (.int x4), .val (.int x5), .val (.int R), .val (.int B), .val (.int ((x0 &&& (2147483647 : Int32)) % R)), .val (.int ((x1 &&& (2147483647 : Int32)) % B)), .val (.ref b17), .val (.long ((R.toInt64) - (1 : Int64))), .second, .unset, .unset, .unset, .unset] [(.long (B.toInt64))])) _
    refine XS.lconst X18.here hx rfl (hb hby at_65) ?_
    show Steps p.tables e below (T18.setTop (mkF m 66 #[.val (.int x0), .val (.int x1), .val (.int x2), .val (.int x3), .val (.int x4), .val (.int x5), .val (.int R), .val (.int B), .val (.int ((x0 &&& (2147483647 : Int32)) % R)), .val (.int ((x1 &&& (2147483647 : Int32)) % B)), .val (.ref b17), .val (.long ((R.toInt64) - (1 : Int64))), .second, .unset, .unset, .unset, .unset] [(.long (1 : Int64)), (.long (B.toInt64))])) _
    refine XS.lsub X18.here hx rfl (hb hby at_66) rfl ?_
    show Steps p.tables e below (T18.setTop (mkF m 67 #[.val (.int x0), .val (.int x1), .val (.int x2), .val (.int x3), .val (.int x4), .val (.int x5), .val (.int R), .val (.int B), .val (.int ((x0 &&& (2147483647 : Int32)) % R)), .val (.int ((x1 &&& (2147483647 : Int32)) % B)), .val (.ref b17), .val (.long ((R.toInt64) - (1 : Int64))), .second, .unset, .unset, .unset, .unset] [(.long ((B.toInt64) - (1 : Int64)))])) _
    refine XS.lstore X18.here hx rfl (hb hby at_67) rfl (l' := #[.val (.int x0), .val (.int x1), .val (.int x2), .val (.int x3), .val (.int x4), .val (.int x5), .val (.int R), .val (.int B), .val (.int ((x0 &&& (2147483647 : Int32)) % R)), .val (.int ((x1 &&& (2147483647 : Int32)) % B)), .val (.ref b17), .val (.long ((R.toInt64) - (1 : Int64))), .second, .val (.long ((B.toInt64) - (1 : Int64))), .second, .unset, .unset]) rfl ?_
    show Steps p.tables e below (T18.setTop (mkF m 69 #[.val (.int x0), .val (.int x1), .val (.int x2), .val (.int x3), .val (.int x4), .val (.int x5), .val (.int R), .val (.int B), .val (.int ((x0 &&& (2147483647 : Int32)) % R)), .val (.int ((x1 &&& (2147483647 : Int32)) % B)), .val (.ref b17), .val (.long ((R.toInt64) - (1 : Int64))), .second, .val (.long ((B.toInt64) - (1 : Int64))), .second, .unset, .unset] [])) _
    refine XS.lload X18.here hx rfl (hb hby at_69) rfl ?_
    show Steps p.tables e below (T18.setTop (mkF m 71 #[.val (.int x0), .val (.int x1), .val (.int x2), .val (.int x3), .val (.int x4), .val (.int x5), .val (.int R), .val (.int B), .val (.int ((x0 &&& (2147483647 : Int32)) % R)), .val (.int ((x1 &&& (2147483647 : Int32)) % B)), .val (.ref b17), .val (.long ((R.toInt64) - (1 : Int64))), .second, .val (.long ((B.toInt64) - (1 : Int64))), .second, .unset, .unset] [(.long ((R.toInt64) - (1 : Int64)))])) _
    refine XS.iload X18.here hx rfl (hb hby at_71) rfl ?_
    show Steps p.tables e below (T18.setTop (mkF m 73 #[.val (.int x0), .val (.int x1), .val (.int x2), .val (.int x3), .val (.int x4), .val (.int x5), .val (.int R), .val (.int B), .val (.int ((x0 &&& (2147483647 : Int32)) % R)), .val (.int ((x1 &&& (2147483647 : Int32)) % B)), .val (.ref b17), .val (.long ((R.toInt64) - (1 : Int64))), .second, .val (.long ((B.toInt64) - (1 : Int64))), .second, .unset, .unset] [(.int x4), (.long ((R.toInt64) - (1 : Int64)))])) _
    refine XS.i2l X18.here hx rfl (hb hby at_73) rfl ?_
    show Steps p.tables e below (T18.setTop (mkF m 74 #[.val (.int x0), .val (.int x1), .val (.int x2), .val (.int x3), .val (.int x4), .val (.int x5), .val (.int R), .val (.int B), .val (.int ((x0 &&& (2147483647 : Int32)) % R)), .val (.int ((x1 &&& (2147483647 : Int32)) % B)), .val (.ref b17), .val (.long ((R.toInt64) - (1 : Int64))), .second, .val (.long ((B.toInt64) - (1 : Int64))), .second, .unset, .unset] [(.long (x4.toInt64)), (.long ((R.toInt64) - (1 : Int64)))])) _
    refine XS.lcmp X18.here hx rfl (hb hby at_74) rfl ?_
    show Steps p.tables e below (T18.setTop (mkF m 75 #[.val (.int x0), .val (.int x1), .val (.int x2), .val (.int x3), .val (.int x4), .val (.int x5), .val (.int R), .val (.int B), .val (.int ((x0 &&& (2147483647 : Int32)) % R)), .val (.int ((x1 &&& (2147483647 : Int32)) % B)), .val (.ref b17), .val (.long ((R.toInt64) - (1 : Int64))), .second, .val (.long ((B.toInt64) - (1 : Int64))), .second, .unset, .unset] [(.int (lcmpW ((R.toInt64) - (1 : Int64)) (x4.toInt64)))])) _
    exact k
  by_cases hc20 : ((R.toInt64) - (1 : Int64)) < (x4.toInt64)
  · skip
    have pw21 : ∀ t, Steps p.tables e below (T18.setTop (mkF m 84 #[.val (.int x0), .val (.int x1), .val (.int x2), .val (.int x3), .val (.int x4), .val (.int x5), .val (.int R), .val (.int B), .val (.int ((x0 &&& (2147483647 : Int32)) % R)), .val (.int ((x1 &&& (2147483647 : Int32)) % B)), .val (.ref b17), .val (.long ((R.toInt64) - (1 : Int64))), .second, .val (.long ((B.toInt64) - (1 : Int64))), .second, .unset, .unset] [(.int (lcmpW ((B.toInt64) - (1 : Int64)) (x5.toInt64)))])) t → Steps p.tables e below (s₁.setTop (entryFrame m #[(.int x0), (.int x1), (.int x2), (.int x3), (.int x4), (.int x5)] maxLocals)) t := by
      intro t k
      refine pw19 t ?_
      refine XS.ifNo X18.here hx rfl (hb hby at_75) rfl ((if0 _ _).trans (tlt ((lw_lt ((R.toInt64) - (1 : Int64)) (x4.toInt64)).2 hc20)).2.1) ?_
      show Steps p.tables e below (T18.setTop (mkF m 78 #[.val (.int x0), .val (.int x1), .val (.int x2), .val (.int x3), .val (.int x4), .val (.int x5), .val (.int R), .val (.int B), .val (.int ((x0 &&& (2147483647 : Int32)) % R)), .val (.int ((x1 &&& (2147483647 : Int32)) % B)), .val (.ref b17), .val (.long ((R.toInt64) - (1 : Int64))), .second, .val (.long ((B.toInt64) - (1 : Int64))), .second, .unset, .unset] [])) _
      refine XS.lload X18.here hx rfl (hb hby at_78) rfl ?_
      show Steps p.tables e below (T18.setTop (mkF m 80 #[.val (.int x0), .val (.int x1), .val (.int x2), .val (.int x3), .val (.int x4), .val (.int x5), .val (.int R), .val (.int B), .val (.int ((x0 &&& (2147483647 : Int32)) % R)), .val (.int ((x1 &&& (2147483647 : Int32)) % B)), .val (.ref b17), .val (.long ((R.toInt64) - (1 : Int64))), .second, .val (.long ((B.toInt64) - (1 : Int64))), .second, .unset, .unset] [(.long ((B.toInt64) - (1 : Int64)))])) _
      refine XS.iload X18.here hx rfl (hb hby at_80) rfl ?_
      show Steps p.tables e below (T18.setTop (mkF m 82 #[.val (.int x0), .val (.int x1), .val (.int x2), .val (.int x3), .val (.int x4), .val (.int x5), .val (.int R), .val (.int B), .val (.int ((x0 &&& (2147483647 : Int32)) % R)), .val (.int ((x1 &&& (2147483647 : Int32)) % B)), .val (.ref b17), .val (.long ((R.toInt64) - (1 : Int64))), .second, .val (.long ((B.toInt64) - (1 : Int64))), .second, .unset, .unset] [(.int x5), (.long ((B.toInt64) - (1 : Int64)))])) _
      refine XS.i2l X18.here hx rfl (hb hby at_82) rfl ?_
      show Steps p.tables e below (T18.setTop (mkF m 83 #[.val (.int x0), .val (.int x1), .val (.int x2), .val (.int x3), .val (.int x4), .val (.int x5), .val (.int R), .val (.int B), .val (.int ((x0 &&& (2147483647 : Int32)) % R)), .val (.int ((x1 &&& (2147483647 : Int32)) % B)), .val (.ref b17), .val (.long ((R.toInt64) - (1 : Int64))), .second, .val (.long ((B.toInt64) - (1 : Int64))), .second, .unset, .unset] [(.long (x5.toInt64)), (.long ((B.toInt64) - (1 : Int64)))])) _
      refine XS.lcmp X18.here hx rfl (hb hby at_83) rfl ?_
      show Steps p.tables e below (T18.setTop (mkF m 84 #[.val (.int x0), .val (.int x1), .val (.int x2), .val (.int x3), .val (.int x4), .val (.int x5), .val (.int R), .val (.int B), .val (.int ((x0 &&& (2147483647 : Int32)) % R)), .val (.int ((x1 &&& (2147483647 : Int32)) % B)), .val (.ref b17), .val (.long ((R.toInt64) - (1 : Int64))), .second, .val (.long ((B.toInt64) - (1 : Int64))), .second, .unset, .unset] [(.int (lcmpW ((B.toInt64) - (1 : Int64)) (x5.toInt64)))])) _
      exact k
    by_cases hc22 : ((B.toInt64) - (1 : Int64)) < (x5.toInt64)
    · skip
      obtain ⟨cq23, kq23, q23a, q23b, q23c⟩ := isOf hZ rfl E18q
      obtain ⟨_, _, ⟨T23, L23, k23, n23⟩, -, X23, ⟨Lc23, hQ23, l23, y23, z23⟩, st23⟩ := X18.virtualBack hx (y := (⟨"com/example/frameloom/frameloom/queue/Crop", "fits", "(II)Z"⟩ : MethodName)) (z := (⟨"com/example/frameloom/frameloom/queue/Crop", "fits", "(II)Z"⟩ : MethodName)) hown (mvT hZ (hw _ (List.mem_of_getElem? (i := 27) rfl))) (mvT hZ (hw _ (List.mem_of_getElem? (i := 28) rfl))) (notFace_of_selects (args := #[]) (mvT hZ (hw _ (List.mem_of_getElem? (i := 30) rfl)))) (mvT hZ (hw _ (List.mem_of_getElem? (i := 30) rfl))) (mvT hZ (hw _ (List.mem_of_getElem? (i := 29) rfl))) (by decide) (backOf (W := 0) (rm_5 l Z a0 hw [] b17 x4 x5 R B (1 : Int32) T18.heap n0 Z18 F218q F318q (by unfold own_fits; rw [if_neg ((own_lt R x4).1 hc20), if_neg ((own_lt B x5).1 hc22)])) hZ (hw _ (List.mem_of_getElem? (i := 31) rfl)) (hw _ (List.mem_of_getElem? (i := 7) rfl)) (by decide) (by decide)) q23a q23c (g := (mkF m 100 #[.val (.int x0), .val (.int x1), .val (.int x2), .val (.int x3), .val (.int x4), .val (.int x5), .val (.int R), .val (.int B), .val (.int ((x0 &&& (2147483647 : Int32)) % R)), .val (.int ((x1 &&& (2147483647 : Int32)) % B)), .val (.ref b17), .val (.long ((R.toInt64) - (1 : Int64))), .second, .val (.long ((B.toInt64) - (1 : Int64))), .second, .val (.int (1 : Int32)), .unset] [(.int x5), (.int x4), (.ref b17)])) rfl (by rw [hml]; rfl) (Steps.refl _) (argsL := [(.int x4), (.int x5)]) (rest := []) (lenOf pd__II_Z rfl) rfl (by show 2 * 0 + _ ≤ _; exact Nat.le_of_eq rfl) (hb hby at_100) (fun _ _ => ⟨rfl, rfl, (by decide : 1 + 0 ≤ _), (by decide : 4 + 0 ≤ _)⟩)
      dsimp only [Pt.U, Pt.locs, Pt.cells, Pt.slots] at X23 l23 y23 z23 st23 hQ23
      subst l23 y23 z23
      obtain ⟨rfl, N23q, e23q⟩ := hQ23
      have N23 := Fr.app N18 N23q
      obtain ⟨cq24, kq24, q24a, q24b, q24c⟩ := isOf hZ e23q E18q
      obtain ⟨_, _, ⟨T24, L24, k24, n24⟩, -, X24, ⟨Lc24, hQ24, l24, y24, z24⟩, st24⟩ := X23.virtualBack hx (y := (⟨"com/example/frameloom/frameloom/queue/Crop", "fits", "(II)Z"⟩ : MethodName)) (z := (⟨"com/example/frameloom/frameloom/queue/Crop", "fits", "(II)Z"⟩ : MethodName)) hown (mvT hZ (hw _ (List.mem_of_getElem? (i := 27) rfl))) (mvT hZ (hw _ (List.mem_of_getElem? (i := 28) rfl))) (notFace_of_selects (args := #[]) (mvT hZ (hw _ (List.mem_of_getElem? (i := 30) rfl)))) (mvT hZ (hw _ (List.mem_of_getElem? (i := 30) rfl))) (mvT hZ (hw _ (List.mem_of_getElem? (i := 29) rfl))) (by decide) (backOf (W := 0) (rm_5 l Z a0 hw [] b17 R B R B (1 : Int32) T18.heap n0 Z18 F218q F318q (by unfold own_fits; rw [if_neg Int32.lt_irrefl, if_neg Int32.lt_irrefl])) hZ (hw _ (List.mem_of_getElem? (i := 31) rfl)) (hw _ (List.mem_of_getElem? (i := 7) rfl)) (by decide) (by decide)) q24a q24c (g := (mkF m 126 #[.val (.int x0), .val (.int x1), .val (.int x2), .val (.int x3), .val (.int x4), .val (.int x5), .val (.int R), .val (.int B), .val (.int ((x0 &&& (2147483647 : Int32)) % R)), .val (.int ((x1 &&& (2147483647 : Int32)) % B)), .val (.ref b17), .val (.long ((R.toInt64) - (1 : Int64))), .second, .val (.long ((B.toInt64) - (1 : Int64))), .second, .val (.int (1 : Int32)), .val (.int (1 : Int32))] [(.int B), (.int R), (.ref b17)])) rfl (by rw [hml]; rfl) (Steps.refl _) (argsL := [(.int R), (.int B)]) (rest := []) (lenOf pd__II_Z rfl) rfl (by show 2 * 0 + _ ≤ _; exact Nat.le_of_eq rfl) (hb hby at_126) (fun _ _ => ⟨rfl, e23q, (by decide : 1 + 0 ≤ _), (by decide : 4 + 0 ≤ _)⟩)
      dsimp only [Pt.U, Pt.locs, Pt.cells, Pt.slots] at X24 l24 y24 z24 st24 hQ24
      subst l24 y24 z24
      obtain ⟨rfl, N24q, e24q⟩ := hQ24
      have N24 := Fr.app N23 N24q
      obtain ⟨cq25, kq25, q25a, q25b, q25c⟩ := isOf hZ e24q E18q
      obtain ⟨_, _, ⟨T25, L25, k25, n25⟩, -, X25, ⟨Lc25, hQ25, l25, y25, z25⟩, st25⟩ := X24.virtualBack hx (y := (⟨"com/example/frameloom/frameloom/queue/Crop", "fits", "(II)Z"⟩ : MethodName)) (z := (⟨"com/example/frameloom/frameloom/queue/Crop", "fits", "(II)Z"⟩ : MethodName)) hown (mvT hZ (hw _ (List.mem_of_getElem? (i := 27) rfl))) (mvT hZ (hw _ (List.mem_of_getElem? (i := 28) rfl))) (notFace_of_selects (args := #[]) (mvT hZ (hw _ (List.mem_of_getElem? (i := 30) rfl)))) (mvT hZ (hw _ (List.mem_of_getElem? (i := 30) rfl))) (mvT hZ (hw _ (List.mem_of_getElem? (i := 29) rfl))) (by decide) (backOf (W := 0) (rm_5 l Z a0 hw [] b17 (R - (1 : Int32)) B R B (0 : Int32) T18.heap n0 Z18 F218q F318q (by unfold own_fits; rw [if_pos (own_pred R hR)])) hZ (hw _ (List.mem_of_getElem? (i := 31) rfl)) (hw _ (List.mem_of_getElem? (i := 7) rfl)) (by decide) (by decide)) q25a q25c (g := (mkF m 152 #[.val (.int x0), .val (.int x1), .val (.int x2), .val (.int x3), .val (.int x4), .val (.int x5), .val (.int R), .val (.int B), .val (.int ((x0 &&& (2147483647 : Int32)) % R)), .val (.int ((x1 &&& (2147483647 : Int32)) % B)), .val (.ref b17), .val (.long ((R.toInt64) - (1 : Int64))), .second, .val (.long ((B.toInt64) - (1 : Int64))), .second, .val (.int (1 : Int32)), .val (.int (1 : Int32))] [(.int B), (.int (R - (1 : Int32))), (.ref b17)])) rfl (by rw [hml]; rfl) (Steps.refl _) (argsL := [(.int (R - (1 : Int32))), (.int B)]) (rest := []) (lenOf pd__II_Z rfl) rfl (by show 2 * 0 + _ ≤ _; exact Nat.le_of_eq rfl) (hb hby at_152) (fun _ _ => ⟨rfl, e24q, (by decide : 1 + 0 ≤ _), (by decide : 4 + 0 ≤ _)⟩)
      dsimp only [Pt.U, Pt.locs, Pt.cells, Pt.slots] at X25 l25 y25 z25 st25 hQ25
      subst l25 y25 z25
      obtain ⟨rfl, N25q, e25q⟩ := hQ25
      have N25 := Fr.app N24 N25q
      obtain ⟨cq26, kq26, q26a, q26b, q26c⟩ := isOf hZ e25q E18q
      obtain ⟨_, _, ⟨T26, L26, k26, n26⟩, -, X26, ⟨Lc26, hQ26, l26, y26, z26⟩, st26⟩ := X25.virtualBack hx (y := (⟨"com/example/frameloom/frameloom/queue/Crop", "fits", "(II)Z"⟩ : MethodName)) (z := (⟨"com/example/frameloom/frameloom/queue/Crop", "fits", "(II)Z"⟩ : MethodName)) hown (mvT hZ (hw _ (List.mem_of_getElem? (i := 27) rfl))) (mvT hZ (hw _ (List.mem_of_getElem? (i := 28) rfl))) (notFace_of_selects (args := #[]) (mvT hZ (hw _ (List.mem_of_getElem? (i := 30) rfl)))) (mvT hZ (hw _ (List.mem_of_getElem? (i := 30) rfl))) (mvT hZ (hw _ (List.mem_of_getElem? (i := 29) rfl))) (by decide) (backOf (W := 0) (rm_5 l Z a0 hw [] b17 R (B - (1 : Int32)) R B (0 : Int32) T18.heap n0 Z18 F218q F318q (by unfold own_fits; rw [if_neg Int32.lt_irrefl, if_pos (own_pred B hB)])) hZ (hw _ (List.mem_of_getElem? (i := 31) rfl)) (hw _ (List.mem_of_getElem? (i := 7) rfl)) (by decide) (by decide)) q26a q26c (g := (mkF m 178 #[.val (.int x0), .val (.int x1), .val (.int x2), .val (.int x3), .val (.int x4), .val (.int x5), .val (.int R), .val (.int B), .val (.int ((x0 &&& (2147483647 : Int32)) % R)), .val (.int ((x1 &&& (2147483647 : Int32)) % B)), .val (.ref b17), .val (.long ((R.toInt64) - (1 : Int64))), .second, .val (.long ((B.toInt64) - (1 : Int64))), .second, .val (.int (1 : Int32)), .val (.int (1 : Int32))] [(.int (B - (1 : Int32))), (.int R), (.ref b17)])) rfl (by rw [hml]; rfl) (Steps.refl _) (argsL := [(.int R), (.int (B - (1 : Int32)))]) (rest := []) (lenOf pd__II_Z rfl) rfl (by show 2 * 0 + _ ≤ _; exact Nat.le_of_eq rfl) (hb hby at_178) (fun _ _ => ⟨rfl, e25q, (by decide : 1 + 0 ≤ _), (by decide : 4 + 0 ≤ _)⟩)
      dsimp only [Pt.U, Pt.locs, Pt.cells, Pt.slots] at X26 l26 y26 z26 st26 hQ26
      subst l26 y26 z26
      obtain ⟨rfl, N26q, e26q⟩ := hQ26
      have N26 := Fr.app N25 N26q
      obtain ⟨cq27, kq27, q27a, q27b, q27c⟩ := isOf hZ e26q E18q
      obtain ⟨_, _, ⟨T27, L27, k27, n27⟩, -, X27, ⟨Lc27, hQ27, l27, y27, z27⟩, st27⟩ := X26.virtualBack hx (y := (⟨"com/example/frameloom/frameloom/queue/Crop", "fits", "(II)Z"⟩ : MethodName)) (z := (⟨"com/example/frameloom/frameloom/queue/Crop", "fits", "(II)Z"⟩ : MethodName)) hown (mvT hZ (hw _ (List.mem_of_getElem? (i := 27) rfl))) (mvT hZ (hw _ (List.mem_of_getElem? (i := 28) rfl))) (notFace_of_selects (args := #[]) (mvT hZ (hw _ (List.mem_of_getElem? (i := 30) rfl)))) (mvT hZ (hw _ (List.mem_of_getElem? (i := 30) rfl))) (mvT hZ (hw _ (List.mem_of_getElem? (i := 29) rfl))) (by decide) (backOf (W := 0) (rm_5 l Z a0 hw [] b17 (2147483647 : Int32) (2147483647 : Int32) R B (1 : Int32) T18.heap n0 Z18 F218q F318q (by unfold own_fits; rw [if_neg (own_nmax R), if_neg (own_nmax B)])) hZ (hw _ (List.mem_of_getElem? (i := 31) rfl)) (hw _ (List.mem_of_getElem? (i := 7) rfl)) (by decide) (by decide)) q27a q27c (g := (mkF m 202 #[.val (.int x0), .val (.int x1), .val (.int x2), .val (.int x3), .val (.int x4), .val (.int x5), .val (.int R), .val (.int B), .val (.int ((x0 &&& (2147483647 : Int32)) % R)), .val (.int ((x1 &&& (2147483647 : Int32)) % B)), .val (.ref b17), .val (.long ((R.toInt64) - (1 : Int64))), .second, .val (.long ((B.toInt64) - (1 : Int64))), .second, .val (.int (1 : Int32)), .val (.int (1 : Int32))] [(.int (2147483647 : Int32)), (.int (2147483647 : Int32)), (.ref b17)])) rfl (by rw [hml]; rfl) (Steps.refl _) (argsL := [(.int (2147483647 : Int32)), (.int (2147483647 : Int32))]) (rest := []) (lenOf pd__II_Z rfl) rfl (by show 2 * 0 + _ ≤ _; exact Nat.le_of_eq rfl) (hb hby at_202) (fun _ _ => ⟨rfl, e26q, (by decide : 1 + 0 ≤ _), (by decide : 4 + 0 ≤ _)⟩)
      dsimp only [Pt.U, Pt.locs, Pt.cells, Pt.slots] at X27 l27 y27 z27 st27 hQ27
      subst l27 y27 z27
      obtain ⟨rfl, N27q, e27q⟩ := hQ27
      have N27 := Fr.app N26 N27q
      obtain ⟨fs, hr, hrun, hended, hW, hsame⟩ := X27.leave (v := some (.int (1 : Int32))) (fun h => by rw [Bd.returns] at h; cases h)
      refine ⟨_, _, pw21 _ ?_, hrun, hended, _, _, rfl, ?_, ⟨_, rfl⟩, hW, hsame.mono (by decide) (by decide)⟩
      · skip
        refine XS.ifNo X18.here hx rfl (hb hby at_84) rfl ((if0 _ _).trans (tlt ((lw_lt ((B.toInt64) - (1 : Int64)) (x5.toInt64)).2 hc22)).2.1) ?_
        show Steps p.tables e below (T18.setTop (mkF m 87 #[.val (.int x0), .val (.int x1), .val (.int x2), .val (.int x3), .val (.int x4), .val (.int x5), .val (.int R), .val (.int B), .val (.int ((x0 &&& (2147483647 : Int32)) % R)), .val (.int ((x1 &&& (2147483647 : Int32)) % B)), .val (.ref b17), .val (.long ((R.toInt64) - (1 : Int64))), .second, .val (.long ((B.toInt64) - (1 : Int64))), .second, .unset, .unset] [])) _
        refine XS.iconst X18.here hx rfl (hb hby at_87) ?_
        show Steps p.tables e below (T18.setTop (mkF m 88 #[.val (.int x0), .val (.int x1), .val (.int x2), .val (.int x3), .val (.int x4), .val (.int x5), .val (.int R), .val (.int B), .val (.int ((x0 &&& (2147483647 : Int32)) % R)), .val (.int ((x1 &&& (2147483647 : Int32)) % B)), .val (.ref b17), .val (.long ((R.toInt64) - (1 : Int64))), .second, .val (.long ((B.toInt64) - (1 : Int64))), .second, .unset, .unset] [(.int (1 : Int32))])) _
        refine XS.goto X18.here hx rfl (pc0 := 88) (pc' := 92) rfl (hb hby at_88) (by decide) (by decide) ?_
        show Steps p.tables e below (T18.setTop (mkF m 92 #[.val (.int x0), .val (.int x1), .val (.int x2), .val (.int x3), .val (.int x4), .val (.int x5), .val (.int R), .val (.int B), .val (.int ((x0 &&& (2147483647 : Int32)) % R)), .val (.int ((x1 &&& (2147483647 : Int32)) % B)), .val (.ref b17), .val (.long ((R.toInt64) - (1 : Int64))), .second, .val (.long ((B.toInt64) - (1 : Int64))), .second, .unset, .unset] [(.int (1 : Int32))])) _
        refine XS.istore X18.here hx rfl (hb hby at_92) rfl (l' := #[.val (.int x0), .val (.int x1), .val (.int x2), .val (.int x3), .val (.int x4), .val (.int x5), .val (.int R), .val (.int B), .val (.int ((x0 &&& (2147483647 : Int32)) % R)), .val (.int ((x1 &&& (2147483647 : Int32)) % B)), .val (.ref b17), .val (.long ((R.toInt64) - (1 : Int64))), .second, .val (.long ((B.toInt64) - (1 : Int64))), .second, .val (.int (1 : Int32)), .unset]) rfl ?_
        show Steps p.tables e below (T18.setTop (mkF m 94 #[.val (.int x0), .val (.int x1), .val (.int x2), .val (.int x3), .val (.int x4), .val (.int x5), .val (.int R), .val (.int B), .val (.int ((x0 &&& (2147483647 : Int32)) % R)), .val (.int ((x1 &&& (2147483647 : Int32)) % B)), .val (.ref b17), .val (.long ((R.toInt64) - (1 : Int64))), .second, .val (.long ((B.toInt64) - (1 : Int64))), .second, .val (.int (1 : Int32)), .unset] [])) _
        refine XS.aload X18.here hx rfl (hb hby at_94) rfl rfl ?_
        show Steps p.tables e below (T18.setTop (mkF m 96 #[.val (.int x0), .val (.int x1), .val (.int x2), .val (.int x3), .val (.int x4), .val (.int x5), .val (.int R), .val (.int B), .val (.int ((x0 &&& (2147483647 : Int32)) % R)), .val (.int ((x1 &&& (2147483647 : Int32)) % B)), .val (.ref b17), .val (.long ((R.toInt64) - (1 : Int64))), .second, .val (.long ((B.toInt64) - (1 : Int64))), .second, .val (.int (1 : Int32)), .unset] [(.ref b17)])) _
        refine XS.iload X18.here hx rfl (hb hby at_96) rfl ?_
        show Steps p.tables e below (T18.setTop (mkF m 98 #[.val (.int x0), .val (.int x1), .val (.int x2), .val (.int x3), .val (.int x4), .val (.int x5), .val (.int R), .val (.int B), .val (.int ((x0 &&& (2147483647 : Int32)) % R)), .val (.int ((x1 &&& (2147483647 : Int32)) % B)), .val (.ref b17), .val (.long ((R.toInt64) - (1 : Int64))), .second, .val (.long ((B.toInt64) - (1 : Int64))), .second, .val (.int (1 : Int32)), .unset] [(.int x4), (.ref b17)])) _
        refine XS.iload X18.here hx rfl (hb hby at_98) rfl ?_
        show Steps p.tables e below (T18.setTop (mkF m 100 #[.val (.int x0), .val (.int x1), .val (.int x2), .val (.int x3), .val (.int x4), .val (.int x5), .val (.int R), .val (.int B), .val (.int ((x0 &&& (2147483647 : Int32)) % R)), .val (.int ((x1 &&& (2147483647 : Int32)) % B)), .val (.ref b17), .val (.long ((R.toInt64) - (1 : Int64))), .second, .val (.long ((B.toInt64) - (1 : Int64))), .second, .val (.int (1 : Int32)), .unset] [(.int x5), (.int x4), (.ref b17)])) _
        refine st23.trans ?_
        show Steps p.tables e below (T23.setTop (mkF m 103 #[.val (.int x0), .val (.int x1), .val (.int x2), .val (.int x3), .val (.int x4), .val (.int x5), .val (.int R), .val (.int B), .val (.int ((x0 &&& (2147483647 : Int32)) % R)), .val (.int ((x1 &&& (2147483647 : Int32)) % B)), .val (.ref b17), .val (.long ((R.toInt64) - (1 : Int64))), .second, .val (.long ((B.toInt64) - (1 : Int64))), .second, .val (.int (1 : Int32)), .unset] [(.int (1 : Int32))])) _
        refine XS.iload X23.here hx rfl (hb hby at_103) rfl ?_
        show Steps p.tables e below (T23.setTop (mkF m 105 #[.val (.int x0), .val (.int x1), .val (.int x2), .val (.int x3), .val (.int x4), .val (.int x5), .val (.int R), .val (.int B), .val (.int ((x0 &&& (2147483647 : Int32)) % R)), .val (.int ((x1 &&& (2147483647 : Int32)) % B)), .val (.ref b17), .val (.long ((R.toInt64) - (1 : Int64))), .second, .val (.long ((B.toInt64) - (1 : Int64))), .second, .val (.int (1 : Int32)), .unset] [(.int (1 : Int32)), (.int (1 : Int32))])) _
        refine XS.icmpNo X23.here hx rfl (hb hby at_105) rfl (teq (by decide : (1 : Int32) = (1 : Int32))).2 ?_
        show Steps p.tables e below (T23.setTop (mkF m 108 #[.val (.int x0), .val (.int x1), .val (.int x2), .val (.int x3), .val (.int x4), .val (.int x5), .val (.int R), .val (.int B), .val (.int ((x0 &&& (2147483647 : Int32)) % R)), .val (.int ((x1 &&& (2147483647 : Int32)) % B)), .val (.ref b17), .val (.long ((R.toInt64) - (1 : Int64))), .second, .val (.long ((B.toInt64) - (1 : Int64))), .second, .val (.int (1 : Int32)), .unset] [])) _
        refine XS.iconst X23.here hx rfl (hb hby at_108) ?_
        show Steps p.tables e below (T23.setTop (mkF m 109 #[.val (.int x0), .val (.int x1), .val (.int x2), .val (.int x3), .val (.int x4), .val (.int x5), .val (.int R), .val (.int B), .val (.int ((x0 &&& (2147483647 : Int32)) % R)), .val (.int ((x1 &&& (2147483647 : Int32)) % B)), .val (.ref b17), .val (.long ((R.toInt64) - (1 : Int64))), .second, .val (.long ((B.toInt64) - (1 : Int64))), .second, .val (.int (1 : Int32)), .unset] [(.int (1 : Int32))])) _
        refine XS.goto X23.here hx rfl (pc0 := 109) (pc' := 113) rfl (hb hby at_109) (by decide) (by decide) ?_
        show Steps p.tables e below (T23.setTop (mkF m 113 #[.val (.int x0), .val (.int x1), .val (.int x2), .val (.int x3), .val (.int x4), .val (.int x5), .val (.int R), .val (.int B), .val (.int ((x0 &&& (2147483647 : Int32)) % R)), .val (.int ((x1 &&& (2147483647 : Int32)) % B)), .val (.ref b17), .val (.long ((R.toInt64) - (1 : Int64))), .second, .val (.long ((B.toInt64) - (1 : Int64))), .second, .val (.int (1 : Int32)), .unset] [(.int (1 : Int32))])) _
        refine XS.istore X23.here hx rfl (hb hby at_113) rfl (l' := #[.val (.int x0), .val (.int x1), .val (.int x2), .val (.int x3), .val (.int x4), .val (.int x5), .val (.int R), .val (.int B), .val (.int ((x0 &&& (2147483647 : Int32)) % R)), .val (.int ((x1 &&& (2147483647 : Int32)) % B)), .val (.ref b17), .val (.long ((R.toInt64) - (1 : Int64))), .second, .val (.long ((B.toInt64) - (1 : Int64))), .second, .val (.int (1 : Int32)), .val (.int (1 : Int32))]) rfl ?_
        show Steps p.tables e below (T23.setTop (mkF m 115 #[.val (.int x0), .val (.int x1), .val (.int x2), .val (.int x3), .val (.int x4), .val (.int x5), .val (.int R), .val (.int B), .val (.int ((x0 &&& (2147483647 : Int32)) % R)), .val (.int ((x1 &&& (2147483647 : Int32)) % B)), .val (.ref b17), .val (.long ((R.toInt64) - (1 : Int64))), .second, .val (.long ((B.toInt64) - (1 : Int64))), .second, .val (.int (1 : Int32)), .val (.int (1 : Int32))] [])) _
        refine XS.iload X23.here hx rfl (hb hby at_115) rfl ?_
        show Steps p.tables e below (T23.setTop (mkF m 117 #[.val (.int x0), .val (.int x1), .val (.int x2), .val (.int x3), .val (.int x4), .val (.int x5), .val (.int R), .val (.int B), .val (.int ((x0 &&& (2147483647 : Int32)) % R)), .val (.int ((x1 &&& (2147483647 : Int32)) % B)), .val (.ref b17), .val (.long ((R.toInt64) - (1 : Int64))), .second, .val (.long ((B.toInt64) - (1 : Int64))), .second, .val (.int (1 : Int32)), .val (.int (1 : Int32))] [(.int (1 : Int32))])) _
        refine XS.ifNo X23.here hx rfl (hb hby at_117) rfl ((if0 _ _).trans (feq (by decide : ¬ ((1 : Int32) = (0 : Int32)))).1) ?_
        show Steps p.tables e below (T23.setTop (mkF m 120 #[.val (.int x0), .val (.int x1), .val (.int x2), .val (.int x3), .val (.int x4), .val (.int x5), .val (.int R), .val (.int B), .val (.int ((x0 &&& (2147483647 : Int32)) % R)), .val (.int ((x1 &&& (2147483647 : Int32)) % B)), .val (.ref b17), .val (.long ((R.toInt64) - (1 : Int64))), .second, .val (.long ((B.toInt64) - (1 : Int64))), .second, .val (.int (1 : Int32)), .val (.int (1 : Int32))] [])) _
        refine XS.aload X23.here hx rfl (hb hby at_120) rfl rfl ?_
        show Steps p.tables e below (T23.setTop (mkF m 122 #[.val (.int x0), .val (.int x1), .val (.int x2), .val (.int x3), .val (.int x4), .val (.int x5), .val (.int R), .val (.int B), .val (.int ((x0 &&& (2147483647 : Int32)) % R)), .val (.int ((x1 &&& (2147483647 : Int32)) % B)), .val (.ref b17), .val (.long ((R.toInt64) - (1 : Int64))), .second, .val (.long ((B.toInt64) - (1 : Int64))), .second, .val (.int (1 : Int32)), .val (.int (1 : Int32))] [(.ref b17)])) _
        refine XS.iload X23.here hx rfl (hb hby at_122) rfl ?_
        show Steps p.tables e below (T23.setTop (mkF m 124 #[.val (.int x0), .val (.int x1), .val (.int x2), .val (.int x3), .val (.int x4), .val (.int x5), .val (.int R), .val (.int B), .val (.int ((x0 &&& (2147483647 : Int32)) % R)), .val (.int ((x1 &&& (2147483647 : Int32)) % B)), .val (.ref b17), .val (.long ((R.toInt64) - (1 : Int64))), .second, .val (.long ((B.toInt64) - (1 : Int64))), .second, .val (.int (1 : Int32)), .val (.int (1 : Int32))] [(.int R), (.ref b17)])) _
        refine XS.iload X23.here hx rfl (hb hby at_124) rfl ?_
        show Steps p.tables e below (T23.setTop (mkF m 126 #[.val (.int x0), .val (.int x1), .val (.int x2), .val (.int x3), .val (.int x4), .val (.int x5), .val (.int R), .val (.int B), .val (.int ((x0 &&& (2147483647 : Int32)) % R)), .val (.int ((x1 &&& (2147483647 : Int32)) % B)), .val (.ref b17), .val (.long ((R.toInt64) - (1 : Int64))), .second, .val (.long ((B.toInt64) - (1 : Int64))), .second, .val (.int (1 : Int32)), .val (.int (1 : Int32))] [(.int B), (.int R), (.ref b17)])) _
        refine st24.trans ?_
        show Steps p.tables e below (T24.setTop (mkF m 129 #[.val (.int x0), .val (.int x1), .val (.int x2), .val (.int x3), .val (.int x4), .val (.int x5), .val (.int R), .val (.int B), .val (.int ((x0 &&& (2147483647 : Int32)) % R)), .val (.int ((x1 &&& (2147483647 : Int32)) % B)), .val (.ref b17), .val (.long ((R.toInt64) - (1 : Int64))), .second, .val (.long ((B.toInt64) - (1 : Int64))), .second, .val (.int (1 : Int32)), .val (.int (1 : Int32))] [(.int (1 : Int32))])) _
        refine XS.ifNo X24.here hx rfl (hb hby at_129) rfl ((if0 _ _).trans (feq (by decide : ¬ ((1 : Int32) = (0 : Int32)))).1) ?_
        show Steps p.tables e below (T24.setTop (mkF m 132 #[.val (.int x0), .val (.int x1), .val (.int x2), .val (.int x3), .val (.int x4), .val (.int x5), .val (.int R), .val (.int B), .val (.int ((x0 &&& (2147483647 : Int32)) % R)), .val (.int ((x1 &&& (2147483647 : Int32)) % B)), .val (.ref b17), .val (.long ((R.toInt64) - (1 : Int64))), .second, .val (.long ((B.toInt64) - (1 : Int64))), .second, .val (.int (1 : Int32)), .val (.int (1 : Int32))] [])) _
        refine XS.iconst X24.here hx rfl (hb hby at_132) ?_
        show Steps p.tables e below (T24.setTop (mkF m 133 #[.val (.int x0), .val (.int x1), .val (.int x2), .val (.int x3), .val (.int x4), .val (.int x5), .val (.int R), .val (.int B), .val (.int ((x0 &&& (2147483647 : Int32)) % R)), .val (.int ((x1 &&& (2147483647 : Int32)) % B)), .val (.ref b17), .val (.long ((R.toInt64) - (1 : Int64))), .second, .val (.long ((B.toInt64) - (1 : Int64))), .second, .val (.int (1 : Int32)), .val (.int (1 : Int32))] [(.int (1 : Int32))])) _
        refine XS.goto X24.here hx rfl (pc0 := 133) (pc' := 137) rfl (hb hby at_133) (by decide) (by decide) ?_
        show Steps p.tables e below (T24.setTop (mkF m 137 #[.val (.int x0), .val (.int x1), .val (.int x2), .val (.int x3), .val (.int x4), .val (.int x5), .val (.int R), .val (.int B), .val (.int ((x0 &&& (2147483647 : Int32)) % R)), .val (.int ((x1 &&& (2147483647 : Int32)) % B)), .val (.ref b17), .val (.long ((R.toInt64) - (1 : Int64))), .second, .val (.long ((B.toInt64) - (1 : Int64))), .second, .val (.int (1 : Int32)), .val (.int (1 : Int32))] [(.int (1 : Int32))])) _
        refine XS.istore X24.here hx rfl (hb hby at_137) rfl (l' := #[.val (.int x0), .val (.int x1), .val (.int x2), .val (.int x3), .val (.int x4), .val (.int x5), .val (.int R), .val (.int B), .val (.int ((x0 &&& (2147483647 : Int32)) % R)), .val (.int ((x1 &&& (2147483647 : Int32)) % B)), .val (.ref b17), .val (.long ((R.toInt64) - (1 : Int64))), .second, .val (.long ((B.toInt64) - (1 : Int64))), .second, .val (.int (1 : Int32)), .val (.int (1 : Int32))]) rfl ?_
        show Steps p.tables e below (T24.setTop (mkF m 139 #[.val (.int x0), .val (.int x1), .val (.int x2), .val (.int x3), .val (.int x4), .val (.int x5), .val (.int R), .val (.int B), .val (.int ((x0 &&& (2147483647 : Int32)) % R)), .val (.int ((x1 &&& (2147483647 : Int32)) % B)), .val (.ref b17), .val (.long ((R.toInt64) - (1 : Int64))), .second, .val (.long ((B.toInt64) - (1 : Int64))), .second, .val (.int (1 : Int32)), .val (.int (1 : Int32))] [])) _
        refine XS.iload X24.here hx rfl (hb hby at_139) rfl ?_
        show Steps p.tables e below (T24.setTop (mkF m 141 #[.val (.int x0), .val (.int x1), .val (.int x2), .val (.int x3), .val (.int x4), .val (.int x5), .val (.int R), .val (.int B), .val (.int ((x0 &&& (2147483647 : Int32)) % R)), .val (.int ((x1 &&& (2147483647 : Int32)) % B)), .val (.ref b17), .val (.long ((R.toInt64) - (1 : Int64))), .second, .val (.long ((B.toInt64) - (1 : Int64))), .second, .val (.int (1 : Int32)), .val (.int (1 : Int32))] [(.int (1 : Int32))])) _
        refine XS.ifNo X24.here hx rfl (hb hby at_141) rfl ((if0 _ _).trans (feq (by decide : ¬ ((1 : Int32) = (0 : Int32)))).1) ?_
        show Steps p.tables e below (T24.setTop (mkF m 144 #[.val (.int x0), .val (.int x1), .val (.int x2), .val (.int x3), .val (.int x4), .val (.int x5), .val (.int R), .val (.int B), .val (.int ((x0 &&& (2147483647 : Int32)) % R)), .val (.int ((x1 &&& (2147483647 : Int32)) % B)), .val (.ref b17), .val (.long ((R.toInt64) - (1 : Int64))), .second, .val (.long ((B.toInt64) - (1 : Int64))), .second, .val (.int (1 : Int32)), .val (.int (1 : Int32))] [])) _
        refine XS.aload X24.here hx rfl (hb hby at_144) rfl rfl ?_
        show Steps p.tables e below (T24.setTop (mkF m 146 #[.val (.int x0), .val (.int x1), .val (.int x2), .val (.int x3), .val (.int x4), .val (.int x5), .val (.int R), .val (.int B), .val (.int ((x0 &&& (2147483647 : Int32)) % R)), .val (.int ((x1 &&& (2147483647 : Int32)) % B)), .val (.ref b17), .val (.long ((R.toInt64) - (1 : Int64))), .second, .val (.long ((B.toInt64) - (1 : Int64))), .second, .val (.int (1 : Int32)), .val (.int (1 : Int32))] [(.ref b17)])) _
        refine XS.iload X24.here hx rfl (hb hby at_146) rfl ?_
        show Steps p.tables e below (T24.setTop (mkF m 148 #[.val (.int x0), .val (.int x1), .val (.int x2), .val (.int x3), .val (.int x4), .val (.int x5), .val (.int R), .val (.int B), .val (.int ((x0 &&& (2147483647 : Int32)) % R)), .val (.int ((x1 &&& (2147483647 : Int32)) % B)), .val (.ref b17), .val (.long ((R.toInt64) - (1 : Int64))), .second, .val (.long ((B.toInt64) - (1 : Int64))), .second, .val (.int (1 : Int32)), .val (.int (1 : Int32))] [(.int R), (.ref b17)])) _
        refine XS.iconst X24.here hx rfl (hb hby at_148) ?_
        show Steps p.tables e below (T24.setTop (mkF m 149 #[.val (.int x0), .val (.int x1), .val (.int x2), .val (.int x3), .val (.int x4), .val (.int x5), .val (.int R), .val (.int B), .val (.int ((x0 &&& (2147483647 : Int32)) % R)), .val (.int ((x1 &&& (2147483647 : Int32)) % B)), .val (.ref b17), .val (.long ((R.toInt64) - (1 : Int64))), .second, .val (.long ((B.toInt64) - (1 : Int64))), .second, .val (.int (1 : Int32)), .val (.int (1 : Int32))] [(.int (1 : Int32)), (.int R), (.ref b17)])) _
        refine XS.isub X24.here hx rfl (hb hby at_149) rfl ?_
        show Steps p.tables e below (T24.setTop (mkF m 150 #[.val (.int x0), .val (.int x1), .val (.int x2), .val (.int x3), .val (.int x4), .val (.int x5), .val (.int R), .val (.int B), .val (.int ((x0 &&& (2147483647 : Int32)) % R)), .val (.int ((x1 &&& (2147483647 : Int32)) % B)), .val (.ref b17), .val (.long ((R.toInt64) - (1 : Int64))), .second, .val (.long ((B.toInt64) - (1 : Int64))), .second, .val (.int (1 : Int32)), .val (.int (1 : Int32))] [(.int (R - (1 : Int32))), (.ref b17)])) _
        refine XS.iload X24.here hx rfl (hb hby at_150) rfl ?_
        show Steps p.tables e below (T24.setTop (mkF m 152 #[.val (.int x0), .val (.int x1), .val (.int x2), .val (.int x3), .val (.int x4), .val (.int x5), .val (.int R), .val (.int B), .val (.int ((x0 &&& (2147483647 : Int32)) % R)), .val (.int ((x1 &&& (2147483647 : Int32)) % B)), .val (.ref b17), .val (.long ((R.toInt64) - (1 : Int64))), .second, .val (.long ((B.toInt64) - (1 : Int64))), .second, .val (.int (1 : Int32)), .val (.int (1 : Int32))] [(.int B), (.int (R - (1 : Int32))), (.ref b17)])) _
        refine st25.trans ?_
        show Steps p.tables e below (T25.setTop (mkF m 155 #[.val (.int x0), .val (.int x1), .val (.int x2), .val (.int x3), .val (.int x4), .val (.int x5), .val (.int R), .val (.int B), .val (.int ((x0 &&& (2147483647 : Int32)) % R)), .val (.int ((x1 &&& (2147483647 : Int32)) % B)), .val (.ref b17), .val (.long ((R.toInt64) - (1 : Int64))), .second, .val (.long ((B.toInt64) - (1 : Int64))), .second, .val (.int (1 : Int32)), .val (.int (1 : Int32))] [(.int (0 : Int32))])) _
        refine XS.ifNo X25.here hx rfl (hb hby at_155) rfl ((if0 _ _).trans (teq (by decide : (0 : Int32) = (0 : Int32))).2) ?_
        show Steps p.tables e below (T25.setTop (mkF m 158 #[.val (.int x0), .val (.int x1), .val (.int x2), .val (.int x3), .val (.int x4), .val (.int x5), .val (.int R), .val (.int B), .val (.int ((x0 &&& (2147483647 : Int32)) % R)), .val (.int ((x1 &&& (2147483647 : Int32)) % B)), .val (.ref b17), .val (.long ((R.toInt64) - (1 : Int64))), .second, .val (.long ((B.toInt64) - (1 : Int64))), .second, .val (.int (1 : Int32)), .val (.int (1 : Int32))] [])) _
        refine XS.iconst X25.here hx rfl (hb hby at_158) ?_
        show Steps p.tables e below (T25.setTop (mkF m 159 #[.val (.int x0), .val (.int x1), .val (.int x2), .val (.int x3), .val (.int x4), .val (.int x5), .val (.int R), .val (.int B), .val (.int ((x0 &&& (2147483647 : Int32)) % R)), .val (.int ((x1 &&& (2147483647 : Int32)) % B)), .val (.ref b17), .val (.long ((R.toInt64) - (1 : Int64))), .second, .val (.long ((B.toInt64) - (1 : Int64))), .second, .val (.int (1 : Int32)), .val (.int (1 : Int32))] [(.int (1 : Int32))])) _
        refine XS.goto X25.here hx rfl (pc0 := 159) (pc' := 163) rfl (hb hby at_159) (by decide) (by decide) ?_
        show Steps p.tables e below (T25.setTop (mkF m 163 #[.val (.int x0), .val (.int x1), .val (.int x2), .val (.int x3), .val (.int x4), .val (.int x5), .val (.int R), .val (.int B), .val (.int ((x0 &&& (2147483647 : Int32)) % R)), .val (.int ((x1 &&& (2147483647 : Int32)) % B)), .val (.ref b17), .val (.long ((R.toInt64) - (1 : Int64))), .second, .val (.long ((B.toInt64) - (1 : Int64))), .second, .val (.int (1 : Int32)), .val (.int (1 : Int32))] [(.int (1 : Int32))])) _
        refine XS.istore X25.here hx rfl (hb hby at_163) rfl (l' := #[.val (.int x0), .val (.int x1), .val (.int x2), .val (.int x3), .val (.int x4), .val (.int x5), .val (.int R), .val (.int B), .val (.int ((x0 &&& (2147483647 : Int32)) % R)), .val (.int ((x1 &&& (2147483647 : Int32)) % B)), .val (.ref b17), .val (.long ((R.toInt64) - (1 : Int64))), .second, .val (.long ((B.toInt64) - (1 : Int64))), .second, .val (.int (1 : Int32)), .val (.int (1 : Int32))]) rfl ?_
        show Steps p.tables e below (T25.setTop (mkF m 165 #[.val (.int x0), .val (.int x1), .val (.int x2), .val (.int x3), .val (.int x4), .val (.int x5), .val (.int R), .val (.int B), .val (.int ((x0 &&& (2147483647 : Int32)) % R)), .val (.int ((x1 &&& (2147483647 : Int32)) % B)), .val (.ref b17), .val (.long ((R.toInt64) - (1 : Int64))), .second, .val (.long ((B.toInt64) - (1 : Int64))), .second, .val (.int (1 : Int32)), .val (.int (1 : Int32))] [])) _
        refine XS.iload X25.here hx rfl (hb hby at_165) rfl ?_
        show Steps p.tables e below (T25.setTop (mkF m 167 #[.val (.int x0), .val (.int x1), .val (.int x2), .val (.int x3), .val (.int x4), .val (.int x5), .val (.int R), .val (.int B), .val (.int ((x0 &&& (2147483647 : Int32)) % R)), .val (.int ((x1 &&& (2147483647 : Int32)) % B)), .val (.ref b17), .val (.long ((R.toInt64) - (1 : Int64))), .second, .val (.long ((B.toInt64) - (1 : Int64))), .second, .val (.int (1 : Int32)), .val (.int (1 : Int32))] [(.int (1 : Int32))])) _
        refine XS.ifNo X25.here hx rfl (hb hby at_167) rfl ((if0 _ _).trans (feq (by decide : ¬ ((1 : Int32) = (0 : Int32)))).1) ?_
        show Steps p.tables e below (T25.setTop (mkF m 170 #[.val (.int x0), .val (.int x1), .val (.int x2), .val (.int x3), .val (.int x4), .val (.int x5), .val (.int R), .val (.int B), .val (.int ((x0 &&& (2147483647 : Int32)) % R)), .val (.int ((x1 &&& (2147483647 : Int32)) % B)), .val (.ref b17), .val (.long ((R.toInt64) - (1 : Int64))), .second, .val (.long ((B.toInt64) - (1 : Int64))), .second, .val (.int (1 : Int32)), .val (.int (1 : Int32))] [])) _
        refine XS.aload X25.here hx rfl (hb hby at_170) rfl rfl ?_
        show Steps p.tables e below (T25.setTop (mkF m 172 #[.val (.int x0), .val (.int x1), .val (.int x2), .val (.int x3), .val (.int x4), .val (.int x5), .val (.int R), .val (.int B), .val (.int ((x0 &&& (2147483647 : Int32)) % R)), .val (.int ((x1 &&& (2147483647 : Int32)) % B)), .val (.ref b17), .val (.long ((R.toInt64) - (1 : Int64))), .second, .val (.long ((B.toInt64) - (1 : Int64))), .second, .val (.int (1 : Int32)), .val (.int (1 : Int32))] [(.ref b17)])) _
        refine XS.iload X25.here hx rfl (hb hby at_172) rfl ?_
        show Steps p.tables e below (T25.setTop (mkF m 174 #[.val (.int x0), .val (.int x1), .val (.int x2), .val (.int x3), .val (.int x4), .val (.int x5), .val (.int R), .val (.int B), .val (.int ((x0 &&& (2147483647 : Int32)) % R)), .val (.int ((x1 &&& (2147483647 : Int32)) % B)), .val (.ref b17), .val (.long ((R.toInt64) - (1 : Int64))), .second, .val (.long ((B.toInt64) - (1 : Int64))), .second, .val (.int (1 : Int32)), .val (.int (1 : Int32))] [(.int R), (.ref b17)])) _
        refine XS.iload X25.here hx rfl (hb hby at_174) rfl ?_
        show Steps p.tables e below (T25.setTop (mkF m 176 #[.val (.int x0), .val (.int x1), .val (.int x2), .val (.int x3), .val (.int x4), .val (.int x5), .val (.int R), .val (.int B), .val (.int ((x0 &&& (2147483647 : Int32)) % R)), .val (.int ((x1 &&& (2147483647 : Int32)) % B)), .val (.ref b17), .val (.long ((R.toInt64) - (1 : Int64))), .second, .val (.long ((B.toInt64) - (1 : Int64))), .second, .val (.int (1 : Int32)), .val (.int (1 : Int32))] [(.int B), (.int R), (.ref b17)])) _
        refine XS.iconst X25.here hx rfl (hb hby at_176) ?_
        show Steps p.tables e below (T25.setTop (mkF m 177 #[.val (.int x0), .val (.int x1), .val (.int x2), .val (.int x3), .val (.int x4), .val (.int x5), .val (.int R), .val (.int B), .val (.int ((x0 &&& (2147483647 : Int32)) % R)), .val (.int ((x1 &&& (2147483647 : Int32)) % B)), .val (.ref b17), .val (.long ((R.toInt64) - (1 : Int64))), .second, .val (.long ((B.toInt64) - (1 : Int64))), .second, .val (.int (1 : Int32)), .val (.int (1 : Int32))] [(.int (1 : Int32)), (.int B), (.int R), (.ref b17)])) _
        refine XS.isub X25.here hx rfl (hb hby at_177) rfl ?_
        show Steps p.tables e below (T25.setTop (mkF m 178 #[.val (.int x0), .val (.int x1), .val (.int x2), .val (.int x3), .val (.int x4), .val (.int x5), .val (.int R), .val (.int B), .val (.int ((x0 &&& (2147483647 : Int32)) % R)), .val (.int ((x1 &&& (2147483647 : Int32)) % B)), .val (.ref b17), .val (.long ((R.toInt64) - (1 : Int64))), .second, .val (.long ((B.toInt64) - (1 : Int64))), .second, .val (.int (1 : Int32)), .val (.int (1 : Int32))] [(.int (B - (1 : Int32))), (.int R), (.ref b17)])) _
        refine st26.trans ?_
        show Steps p.tables e below (T26.setTop (mkF m 181 #[.val (.int x0), .val (.int x1), .val (.int x2), .val (.int x3), .val (.int x4), .val (.int x5), .val (.int R), .val (.int B), .val (.int ((x0 &&& (2147483647 : Int32)) % R)), .val (.int ((x1 &&& (2147483647 : Int32)) % B)), .val (.ref b17), .val (.long ((R.toInt64) - (1 : Int64))), .second, .val (.long ((B.toInt64) - (1 : Int64))), .second, .val (.int (1 : Int32)), .val (.int (1 : Int32))] [(.int (0 : Int32))])) _
        refine XS.ifNo X26.here hx rfl (hb hby at_181) rfl ((if0 _ _).trans (teq (by decide : (0 : Int32) = (0 : Int32))).2) ?_
        show Steps p.tables e below (T26.setTop (mkF m 184 #[.val (.int x0), .val (.int x1), .val (.int x2), .val (.int x3), .val (.int x4), .val (.int x5), .val (.int R), .val (.int B), .val (.int ((x0 &&& (2147483647 : Int32)) % R)), .val (.int ((x1 &&& (2147483647 : Int32)) % B)), .val (.ref b17), .val (.long ((R.toInt64) - (1 : Int64))), .second, .val (.long ((B.toInt64) - (1 : Int64))), .second, .val (.int (1 : Int32)), .val (.int (1 : Int32))] [])) _
        refine XS.iconst X26.here hx rfl (hb hby at_184) ?_
        show Steps p.tables e below (T26.setTop (mkF m 185 #[.val (.int x0), .val (.int x1), .val (.int x2), .val (.int x3), .val (.int x4), .val (.int x5), .val (.int R), .val (.int B), .val (.int ((x0 &&& (2147483647 : Int32)) % R)), .val (.int ((x1 &&& (2147483647 : Int32)) % B)), .val (.ref b17), .val (.long ((R.toInt64) - (1 : Int64))), .second, .val (.long ((B.toInt64) - (1 : Int64))), .second, .val (.int (1 : Int32)), .val (.int (1 : Int32))] [(.int (1 : Int32))])) _
        refine XS.goto X26.here hx rfl (pc0 := 185) (pc' := 189) rfl (hb hby at_185) (by decide) (by decide) ?_
        show Steps p.tables e below (T26.setTop (mkF m 189 #[.val (.int x0), .val (.int x1), .val (.int x2), .val (.int x3), .val (.int x4), .val (.int x5), .val (.int R), .val (.int B), .val (.int ((x0 &&& (2147483647 : Int32)) % R)), .val (.int ((x1 &&& (2147483647 : Int32)) % B)), .val (.ref b17), .val (.long ((R.toInt64) - (1 : Int64))), .second, .val (.long ((B.toInt64) - (1 : Int64))), .second, .val (.int (1 : Int32)), .val (.int (1 : Int32))] [(.int (1 : Int32))])) _
        refine XS.istore X26.here hx rfl (hb hby at_189) rfl (l' := #[.val (.int x0), .val (.int x1), .val (.int x2), .val (.int x3), .val (.int x4), .val (.int x5), .val (.int R), .val (.int B), .val (.int ((x0 &&& (2147483647 : Int32)) % R)), .val (.int ((x1 &&& (2147483647 : Int32)) % B)), .val (.ref b17), .val (.long ((R.toInt64) - (1 : Int64))), .second, .val (.long ((B.toInt64) - (1 : Int64))), .second, .val (.int (1 : Int32)), .val (.int (1 : Int32))]) rfl ?_
        show Steps p.tables e below (T26.setTop (mkF m 191 #[.val (.int x0), .val (.int x1), .val (.int x2), .val (.int x3), .val (.int x4), .val (.int x5), .val (.int R), .val (.int B), .val (.int ((x0 &&& (2147483647 : Int32)) % R)), .val (.int ((x1 &&& (2147483647 : Int32)) % B)), .val (.ref b17), .val (.long ((R.toInt64) - (1 : Int64))), .second, .val (.long ((B.toInt64) - (1 : Int64))), .second, .val (.int (1 : Int32)), .val (.int (1 : Int32))] [])) _
        refine XS.iload X26.here hx rfl (hb hby at_191) rfl ?_
        show Steps p.tables e below (T26.setTop (mkF m 193 #[.val (.int x0), .val (.int x1), .val (.int x2), .val (.int x3), .val (.int x4), .val (.int x5), .val (.int R), .val (.int B), .val (.int ((x0 &&& (2147483647 : Int32)) % R)), .val (.int ((x1 &&& (2147483647 : Int32)) % B)), .val (.ref b17), .val (.long ((R.toInt64) - (1 : Int64))), .second, .val (.long ((B.toInt64) - (1 : Int64))), .second, .val (.int (1 : Int32)), .val (.int (1 : Int32))] [(.int (1 : Int32))])) _
        refine XS.ifNo X26.here hx rfl (hb hby at_193) rfl ((if0 _ _).trans (feq (by decide : ¬ ((1 : Int32) = (0 : Int32)))).1) ?_
        show Steps p.tables e below (T26.setTop (mkF m 196 #[.val (.int x0), .val (.int x1), .val (.int x2), .val (.int x3), .val (.int x4), .val (.int x5), .val (.int R), .val (.int B), .val (.int ((x0 &&& (2147483647 : Int32)) % R)), .val (.int ((x1 &&& (2147483647 : Int32)) % B)), .val (.ref b17), .val (.long ((R.toInt64) - (1 : Int64))), .second, .val (.long ((B.toInt64) - (1 : Int64))), .second, .val (.int (1 : Int32)), .val (.int (1 : Int32))] [])) _
        refine XS.aload X26.here hx rfl (hb hby at_196) rfl rfl ?_
        show Steps p.tables e below (T26.setTop (mkF m 198 #[.val (.int x0), .val (.int x1), .val (.int x2), .val (.int x3), .val (.int x4), .val (.int x5), .val (.int R), .val (.int B), .val (.int ((x0 &&& (2147483647 : Int32)) % R)), .val (.int ((x1 &&& (2147483647 : Int32)) % B)), .val (.ref b17), .val (.long ((R.toInt64) - (1 : Int64))), .second, .val (.long ((B.toInt64) - (1 : Int64))), .second, .val (.int (1 : Int32)), .val (.int (1 : Int32))] [(.ref b17)])) _
        refine X26.ldcInt hx hown (mvT hZ (hw _ (List.mem_of_getElem? (i := 0) rfl))) (g := (mkF m 198 #[.val (.int x0), .val (.int x1), .val (.int x2), .val (.int x3), .val (.int x4), .val (.int x5), .val (.int R), .val (.int B), .val (.int ((x0 &&& (2147483647 : Int32)) % R)), .val (.int ((x1 &&& (2147483647 : Int32)) % B)), .val (.ref b17), .val (.long ((R.toInt64) - (1 : Int64))), .second, .val (.long ((B.toInt64) - (1 : Int64))), .second, .val (.int (1 : Int32)), .val (.int (1 : Int32))] [(.ref b17)])) rfl (hb hby at_198) _ ?_
        show Steps p.tables e below (T26.setTop (mkF m 200 #[.val (.int x0), .val (.int x1), .val (.int x2), .val (.int x3), .val (.int x4), .val (.int x5), .val (.int R), .val (.int B), .val (.int ((x0 &&& (2147483647 : Int32)) % R)), .val (.int ((x1 &&& (2147483647 : Int32)) % B)), .val (.ref b17), .val (.long ((R.toInt64) - (1 : Int64))), .second, .val (.long ((B.toInt64) - (1 : Int64))), .second, .val (.int (1 : Int32)), .val (.int (1 : Int32))] [(.int (2147483647 : Int32)), (.ref b17)])) _
        refine X26.ldcInt hx hown (mvT hZ (hw _ (List.mem_of_getElem? (i := 0) rfl))) (g := (mkF m 200 #[.val (.int x0), .val (.int x1), .val (.int x2), .val (.int x3), .val (.int x4), .val (.int x5), .val (.int R), .val (.int B), .val (.int ((x0 &&& (2147483647 : Int32)) % R)), .val (.int ((x1 &&& (2147483647 : Int32)) % B)), .val (.ref b17), .val (.long ((R.toInt64) - (1 : Int64))), .second, .val (.long ((B.toInt64) - (1 : Int64))), .second, .val (.int (1 : Int32)), .val (.int (1 : Int32))] [(.int (2147483647 : Int32)), (.ref b17)])) rfl (hb hby at_200) _ ?_
        show Steps p.tables e below (T26.setTop (mkF m 202 #[.val (.int x0), .val (.int x1), .val (.int x2), .val (.int x3), .val (.int x4), .val (.int x5), .val (.int R), .val (.int B), .val (.int ((x0 &&& (2147483647 : Int32)) % R)), .val (.int ((x1 &&& (2147483647 : Int32)) % B)), .val (.ref b17), .val (.long ((R.toInt64) - (1 : Int64))), .second, .val (.long ((B.toInt64) - (1 : Int64))), .second, .val (.int (1 : Int32)), .val (.int (1 : Int32))] [(.int (2147483647 : Int32)), (.int (2147483647 : Int32)), (.ref b17)])) _
        refine st27.trans ?_
        show Steps p.tables e below (T27.setTop (mkF m 205 #[.val (.int x0), .val (.int x1), .val (.int x2), .val (.int x3), .val (.int x4), .val (.int x5), .val (.int R), .val (.int B), .val (.int ((x0 &&& (2147483647 : Int32)) % R)), .val (.int ((x1 &&& (2147483647 : Int32)) % B)), .val (.ref b17), .val (.long ((R.toInt64) - (1 : Int64))), .second, .val (.long ((B.toInt64) - (1 : Int64))), .second, .val (.int (1 : Int32)), .val (.int (1 : Int32))] [(.int (1 : Int32))])) _
        refine XS.ifNo X27.here hx rfl (hb hby at_205) rfl ((if0 _ _).trans (feq (by decide : ¬ ((1 : Int32) = (0 : Int32)))).1) ?_
        show Steps p.tables e below (T27.setTop (mkF m 208 #[.val (.int x0), .val (.int x1), .val (.int x2), .val (.int x3), .val (.int x4), .val (.int x5), .val (.int R), .val (.int B), .val (.int ((x0 &&& (2147483647 : Int32)) % R)), .val (.int ((x1 &&& (2147483647 : Int32)) % B)), .val (.ref b17), .val (.long ((R.toInt64) - (1 : Int64))), .second, .val (.long ((B.toInt64) - (1 : Int64))), .second, .val (.int (1 : Int32)), .val (.int (1 : Int32))] [])) _
        refine XS.iconst X27.here hx rfl (hb hby at_208) ?_
        show Steps p.tables e below (T27.setTop (mkF m 209 #[.val (.int x0), .val (.int x1), .val (.int x2), .val (.int x3), .val (.int x4), .val (.int x5), .val (.int R), .val (.int B), .val (.int ((x0 &&& (2147483647 : Int32)) % R)), .val (.int ((x1 &&& (2147483647 : Int32)) % B)), .val (.ref b17), .val (.long ((R.toInt64) - (1 : Int64))), .second, .val (.long ((B.toInt64) - (1 : Int64))), .second, .val (.int (1 : Int32)), .val (.int (1 : Int32))] [(.int (1 : Int32))])) _
        refine XS.goto X27.here hx rfl (pc0 := 209) (pc' := 213) rfl (hb hby at_209) (by decide) (by decide) ?_
        show Steps p.tables e below (T27.setTop (mkF m 213 #[.val (.int x0), .val (.int x1), .val (.int x2), .val (.int x3), .val (.int x4), .val (.int x5), .val (.int R), .val (.int B), .val (.int ((x0 &&& (2147483647 : Int32)) % R)), .val (.int ((x1 &&& (2147483647 : Int32)) % B)), .val (.ref b17), .val (.long ((R.toInt64) - (1 : Int64))), .second, .val (.long ((B.toInt64) - (1 : Int64))), .second, .val (.int (1 : Int32)), .val (.int (1 : Int32))] [(.int (1 : Int32))])) _
        refine XS.istore X27.here hx rfl (hb hby at_213) rfl (l' := #[.val (.int x0), .val (.int x1), .val (.int x2), .val (.int x3), .val (.int x4), .val (.int x5), .val (.int R), .val (.int B), .val (.int ((x0 &&& (2147483647 : Int32)) % R)), .val (.int ((x1 &&& (2147483647 : Int32)) % B)), .val (.ref b17), .val (.long ((R.toInt64) - (1 : Int64))), .second, .val (.long ((B.toInt64) - (1 : Int64))), .second, .val (.int (1 : Int32)), .val (.int (1 : Int32))]) rfl ?_
        show Steps p.tables e below (T27.setTop (mkF m 215 #[.val (.int x0), .val (.int x1), .val (.int x2), .val (.int x3), .val (.int x4), .val (.int x5), .val (.int R), .val (.int B), .val (.int ((x0 &&& (2147483647 : Int32)) % R)), .val (.int ((x1 &&& (2147483647 : Int32)) % B)), .val (.ref b17), .val (.long ((R.toInt64) - (1 : Int64))), .second, .val (.long ((B.toInt64) - (1 : Int64))), .second, .val (.int (1 : Int32)), .val (.int (1 : Int32))] [])) _
        refine XS.iload X27.here hx rfl (hb hby at_215) rfl ?_
        show Steps p.tables e below (T27.setTop (mkF m 217 #[.val (.int x0), .val (.int x1), .val (.int x2), .val (.int x3), .val (.int x4), .val (.int x5), .val (.int R), .val (.int B), .val (.int ((x0 &&& (2147483647 : Int32)) % R)), .val (.int ((x1 &&& (2147483647 : Int32)) % B)), .val (.ref b17), .val (.long ((R.toInt64) - (1 : Int64))), .second, .val (.long ((B.toInt64) - (1 : Int64))), .second, .val (.int (1 : Int32)), .val (.int (1 : Int32))] [(.int (1 : Int32))])) _
        exact retN X27 hx (t := .boolean) Bd.returns (by simp) (hb hby at_217) hr
      · show Q_0 Z x0 x1 x2 x3 x4 x5 R B h0 n0 _ T27.heap _
        rw [e27q]
        exact ⟨rfl, N27⟩
    · skip
      obtain ⟨cq28, kq28, q28a, q28b, q28c⟩ := isOf hZ rfl E18q
      obtain ⟨_, _, ⟨T28, L28, k28, n28⟩, -, X28, ⟨Lc28, hQ28, l28, y28, z28⟩, st28⟩ := X18.virtualBack hx (y := (⟨"com/example/frameloom/frameloom/queue/Crop", "fits", "(II)Z"⟩ : MethodName)) (z := (⟨"com/example/frameloom/frameloom/queue/Crop", "fits", "(II)Z"⟩ : MethodName)) hown (mvT hZ (hw _ (List.mem_of_getElem? (i := 27) rfl))) (mvT hZ (hw _ (List.mem_of_getElem? (i := 28) rfl))) (notFace_of_selects (args := #[]) (mvT hZ (hw _ (List.mem_of_getElem? (i := 30) rfl)))) (mvT hZ (hw _ (List.mem_of_getElem? (i := 30) rfl))) (mvT hZ (hw _ (List.mem_of_getElem? (i := 29) rfl))) (by decide) (backOf (W := 0) (rm_5 l Z a0 hw [] b17 x4 x5 R B (0 : Int32) T18.heap n0 Z18 F218q F318q (by unfold own_fits; rw [if_neg ((own_lt R x4).1 hc20), if_pos (own_ge B x5 hc22)])) hZ (hw _ (List.mem_of_getElem? (i := 31) rfl)) (hw _ (List.mem_of_getElem? (i := 7) rfl)) (by decide) (by decide)) q28a q28c (g := (mkF m 100 #[.val (.int x0), .val (.int x1), .val (.int x2), .val (.int x3), .val (.int x4), .val (.int x5), .val (.int R), .val (.int B), .val (.int ((x0 &&& (2147483647 : Int32)) % R)), .val (.int ((x1 &&& (2147483647 : Int32)) % B)), .val (.ref b17), .val (.long ((R.toInt64) - (1 : Int64))), .second, .val (.long ((B.toInt64) - (1 : Int64))), .second, .val (.int (0 : Int32)), .unset] [(.int x5), (.int x4), (.ref b17)])) rfl (by rw [hml]; rfl) (Steps.refl _) (argsL := [(.int x4), (.int x5)]) (rest := []) (lenOf pd__II_Z rfl) rfl (by show 2 * 0 + _ ≤ _; exact Nat.le_of_eq rfl) (hb hby at_100) (fun _ _ => ⟨rfl, rfl, (by decide : 1 + 0 ≤ _), (by decide : 4 + 0 ≤ _)⟩)
      dsimp only [Pt.U, Pt.locs, Pt.cells, Pt.slots] at X28 l28 y28 z28 st28 hQ28
      subst l28 y28 z28
      obtain ⟨rfl, N28q, e28q⟩ := hQ28
      have N28 := Fr.app N18 N28q
      obtain ⟨cq29, kq29, q29a, q29b, q29c⟩ := isOf hZ e28q E18q
      obtain ⟨_, _, ⟨T29, L29, k29, n29⟩, -, X29, ⟨Lc29, hQ29, l29, y29, z29⟩, st29⟩ := X28.virtualBack hx (y := (⟨"com/example/frameloom/frameloom/queue/Crop", "fits", "(II)Z"⟩ : MethodName)) (z := (⟨"com/example/frameloom/frameloom/queue/Crop", "fits", "(II)Z"⟩ : MethodName)) hown (mvT hZ (hw _ (List.mem_of_getElem? (i := 27) rfl))) (mvT hZ (hw _ (List.mem_of_getElem? (i := 28) rfl))) (notFace_of_selects (args := #[]) (mvT hZ (hw _ (List.mem_of_getElem? (i := 30) rfl)))) (mvT hZ (hw _ (List.mem_of_getElem? (i := 30) rfl))) (mvT hZ (hw _ (List.mem_of_getElem? (i := 29) rfl))) (by decide) (backOf (W := 0) (rm_5 l Z a0 hw [] b17 R B R B (1 : Int32) T18.heap n0 Z18 F218q F318q (by unfold own_fits; rw [if_neg Int32.lt_irrefl, if_neg Int32.lt_irrefl])) hZ (hw _ (List.mem_of_getElem? (i := 31) rfl)) (hw _ (List.mem_of_getElem? (i := 7) rfl)) (by decide) (by decide)) q29a q29c (g := (mkF m 126 #[.val (.int x0), .val (.int x1), .val (.int x2), .val (.int x3), .val (.int x4), .val (.int x5), .val (.int R), .val (.int B), .val (.int ((x0 &&& (2147483647 : Int32)) % R)), .val (.int ((x1 &&& (2147483647 : Int32)) % B)), .val (.ref b17), .val (.long ((R.toInt64) - (1 : Int64))), .second, .val (.long ((B.toInt64) - (1 : Int64))), .second, .val (.int (0 : Int32)), .val (.int (1 : Int32))] [(.int B), (.int R), (.ref b17)])) rfl (by rw [hml]; rfl) (Steps.refl _) (argsL := [(.int R), (.int B)]) (rest := []) (lenOf pd__II_Z rfl) rfl (by show 2 * 0 + _ ≤ _; exact Nat.le_of_eq rfl) (hb hby at_126) (fun _ _ => ⟨rfl, e28q, (by decide : 1 + 0 ≤ _), (by decide : 4 + 0 ≤ _)⟩)
      dsimp only [Pt.U, Pt.locs, Pt.cells, Pt.slots] at X29 l29 y29 z29 st29 hQ29
      subst l29 y29 z29
      obtain ⟨rfl, N29q, e29q⟩ := hQ29
      have N29 := Fr.app N28 N29q
      obtain ⟨cq30, kq30, q30a, q30b, q30c⟩ := isOf hZ e29q E18q
      obtain ⟨_, _, ⟨T30, L30, k30, n30⟩, -, X30, ⟨Lc30, hQ30, l30, y30, z30⟩, st30⟩ := X29.virtualBack hx (y := (⟨"com/example/frameloom/frameloom/queue/Crop", "fits", "(II)Z"⟩ : MethodName)) (z := (⟨"com/example/frameloom/frameloom/queue/Crop", "fits", "(II)Z"⟩ : MethodName)) hown (mvT hZ (hw _ (List.mem_of_getElem? (i := 27) rfl))) (mvT hZ (hw _ (List.mem_of_getElem? (i := 28) rfl))) (notFace_of_selects (args := #[]) (mvT hZ (hw _ (List.mem_of_getElem? (i := 30) rfl)))) (mvT hZ (hw _ (List.mem_of_getElem? (i := 30) rfl))) (mvT hZ (hw _ (List.mem_of_getElem? (i := 29) rfl))) (by decide) (backOf (W := 0) (rm_5 l Z a0 hw [] b17 (R - (1 : Int32)) B R B (0 : Int32) T18.heap n0 Z18 F218q F318q (by unfold own_fits; rw [if_pos (own_pred R hR)])) hZ (hw _ (List.mem_of_getElem? (i := 31) rfl)) (hw _ (List.mem_of_getElem? (i := 7) rfl)) (by decide) (by decide)) q30a q30c (g := (mkF m 152 #[.val (.int x0), .val (.int x1), .val (.int x2), .val (.int x3), .val (.int x4), .val (.int x5), .val (.int R), .val (.int B), .val (.int ((x0 &&& (2147483647 : Int32)) % R)), .val (.int ((x1 &&& (2147483647 : Int32)) % B)), .val (.ref b17), .val (.long ((R.toInt64) - (1 : Int64))), .second, .val (.long ((B.toInt64) - (1 : Int64))), .second, .val (.int (0 : Int32)), .val (.int (1 : Int32))] [(.int B), (.int (R - (1 : Int32))), (.ref b17)])) rfl (by rw [hml]; rfl) (Steps.refl _) (argsL := [(.int (R - (1 : Int32))), (.int B)]) (rest := []) (lenOf pd__II_Z rfl) rfl (by show 2 * 0 + _ ≤ _; exact Nat.le_of_eq rfl) (hb hby at_152) (fun _ _ => ⟨rfl, e29q, (by decide : 1 + 0 ≤ _), (by decide : 4 + 0 ≤ _)⟩)
      dsimp only [Pt.U, Pt.locs, Pt.cells, Pt.slots] at X30 l30 y30 z30 st30 hQ30
      subst l30 y30 z30
      obtain ⟨rfl, N30q, e30q⟩ := hQ30
      have N30 := Fr.app N29 N30q
      obtain ⟨cq31, kq31, q31a, q31b, q31c⟩ := isOf hZ e30q E18q
      obtain ⟨_, _, ⟨T31, L31, k31, n31⟩, -, X31, ⟨Lc31, hQ31, l31, y31, z31⟩, st31⟩ := X30.virtualBack hx (y := (⟨"com/example/frameloom/frameloom/queue/Crop", "fits", "(II)Z"⟩ : MethodName)) (z := (⟨"com/example/frameloom/frameloom/queue/Crop", "fits", "(II)Z"⟩ : MethodName)) hown (mvT hZ (hw _ (List.mem_of_getElem? (i := 27) rfl))) (mvT hZ (hw _ (List.mem_of_getElem? (i := 28) rfl))) (notFace_of_selects (args := #[]) (mvT hZ (hw _ (List.mem_of_getElem? (i := 30) rfl)))) (mvT hZ (hw _ (List.mem_of_getElem? (i := 30) rfl))) (mvT hZ (hw _ (List.mem_of_getElem? (i := 29) rfl))) (by decide) (backOf (W := 0) (rm_5 l Z a0 hw [] b17 R (B - (1 : Int32)) R B (0 : Int32) T18.heap n0 Z18 F218q F318q (by unfold own_fits; rw [if_neg Int32.lt_irrefl, if_pos (own_pred B hB)])) hZ (hw _ (List.mem_of_getElem? (i := 31) rfl)) (hw _ (List.mem_of_getElem? (i := 7) rfl)) (by decide) (by decide)) q31a q31c (g := (mkF m 178 #[.val (.int x0), .val (.int x1), .val (.int x2), .val (.int x3), .val (.int x4), .val (.int x5), .val (.int R), .val (.int B), .val (.int ((x0 &&& (2147483647 : Int32)) % R)), .val (.int ((x1 &&& (2147483647 : Int32)) % B)), .val (.ref b17), .val (.long ((R.toInt64) - (1 : Int64))), .second, .val (.long ((B.toInt64) - (1 : Int64))), .second, .val (.int (0 : Int32)), .val (.int (1 : Int32))] [(.int (B - (1 : Int32))), (.int R), (.ref b17)])) rfl (by rw [hml]; rfl) (Steps.refl _) (argsL := [(.int R), (.int (B - (1 : Int32)))]) (rest := []) (lenOf pd__II_Z rfl) rfl (by show 2 * 0 + _ ≤ _; exact Nat.le_of_eq rfl) (hb hby at_178) (fun _ _ => ⟨rfl, e30q, (by decide : 1 + 0 ≤ _), (by decide : 4 + 0 ≤ _)⟩)
      dsimp only [Pt.U, Pt.locs, Pt.cells, Pt.slots] at X31 l31 y31 z31 st31 hQ31
      subst l31 y31 z31
      obtain ⟨rfl, N31q, e31q⟩ := hQ31
      have N31 := Fr.app N30 N31q
      obtain ⟨cq32, kq32, q32a, q32b, q32c⟩ := isOf hZ e31q E18q
      obtain ⟨_, _, ⟨T32, L32, k32, n32⟩, -, X32, ⟨Lc32, hQ32, l32, y32, z32⟩, st32⟩ := X31.virtualBack hx (y := (⟨"com/example/frameloom/frameloom/queue/Crop", "fits", "(II)Z"⟩ : MethodName)) (z := (⟨"com/example/frameloom/frameloom/queue/Crop", "fits", "(II)Z"⟩ : MethodName)) hown (mvT hZ (hw _ (List.mem_of_getElem? (i := 27) rfl))) (mvT hZ (hw _ (List.mem_of_getElem? (i := 28) rfl))) (notFace_of_selects (args := #[]) (mvT hZ (hw _ (List.mem_of_getElem? (i := 30) rfl)))) (mvT hZ (hw _ (List.mem_of_getElem? (i := 30) rfl))) (mvT hZ (hw _ (List.mem_of_getElem? (i := 29) rfl))) (by decide) (backOf (W := 0) (rm_5 l Z a0 hw [] b17 (2147483647 : Int32) (2147483647 : Int32) R B (1 : Int32) T18.heap n0 Z18 F218q F318q (by unfold own_fits; rw [if_neg (own_nmax R), if_neg (own_nmax B)])) hZ (hw _ (List.mem_of_getElem? (i := 31) rfl)) (hw _ (List.mem_of_getElem? (i := 7) rfl)) (by decide) (by decide)) q32a q32c (g := (mkF m 202 #[.val (.int x0), .val (.int x1), .val (.int x2), .val (.int x3), .val (.int x4), .val (.int x5), .val (.int R), .val (.int B), .val (.int ((x0 &&& (2147483647 : Int32)) % R)), .val (.int ((x1 &&& (2147483647 : Int32)) % B)), .val (.ref b17), .val (.long ((R.toInt64) - (1 : Int64))), .second, .val (.long ((B.toInt64) - (1 : Int64))), .second, .val (.int (0 : Int32)), .val (.int (1 : Int32))] [(.int (2147483647 : Int32)), (.int (2147483647 : Int32)), (.ref b17)])) rfl (by rw [hml]; rfl) (Steps.refl _) (argsL := [(.int (2147483647 : Int32)), (.int (2147483647 : Int32))]) (rest := []) (lenOf pd__II_Z rfl) rfl (by show 2 * 0 + _ ≤ _; exact Nat.le_of_eq rfl) (hb hby at_202) (fun _ _ => ⟨rfl, e31q, (by decide : 1 + 0 ≤ _), (by decide : 4 + 0 ≤ _)⟩)
      dsimp only [Pt.U, Pt.locs, Pt.cells, Pt.slots] at X32 l32 y32 z32 st32 hQ32
      subst l32 y32 z32
      obtain ⟨rfl, N32q, e32q⟩ := hQ32
      have N32 := Fr.app N31 N32q
      obtain ⟨fs, hr, hrun, hended, hW, hsame⟩ := X32.leave (v := some (.int (1 : Int32))) (fun h => by rw [Bd.returns] at h; cases h)
      refine ⟨_, _, pw21 _ ?_, hrun, hended, _, _, rfl, ?_, ⟨_, rfl⟩, hW, hsame.mono (by decide) (by decide)⟩
      · skip
        refine XS.ifYes X18.here hx rfl (pc0 := 84) (pc' := 91) rfl (hb hby at_84) rfl ((if0 _ _).trans (flt (mt (lw_lt ((B.toInt64) - (1 : Int64)) (x5.toInt64)).1 hc22)).2.1) (by decide) (by decide) ?_
        show Steps p.tables e below (T18.setTop (mkF m 91 #[.val (.int x0), .val (.int x1), .val (.int x2), .val (.int x3), .val (.int x4), .val (.int x5), .val (.int R), .val (.int B), .val (.int ((x0 &&& (2147483647 : Int32)) % R)), .val (.int ((x1 &&& (2147483647 : Int32)) % B)), .val (.ref b17), .val (.long ((R.toInt64) - (1 : Int64))), .second, .val (.long ((B.toInt64) - (1 : Int64))), .second, .unset, .unset] [])) _
        refine XS.iconst X18.here hx rfl (hb hby at_91) ?_
        show Steps p.tables e below (T18.setTop (mkF m 92 #[.val (.int x0), .val (.int x1), .val (.int x2), .val (.int x3), .val (.int x4), .val (.int x5), .val (.int R), .val (.int B), .val (.int ((x0 &&& (2147483647 : Int32)) % R)), .val (.int ((x1 &&& (2147483647 : Int32)) % B)), .val (.ref b17), .val (.long ((R.toInt64) - (1 : Int64))), .second, .val (.long ((B.toInt64) - (1 : Int64))), .second, .unset, .unset] [(.int (0 : Int32))])) _
        refine XS.istore X18.here hx rfl (hb hby at_92) rfl (l' := #[.val (.int x0), .val (.int x1), .val (.int x2), .val (.int x3), .val (.int x4), .val (.int x5), .val (.int R), .val (.int B), .val (.int ((x0 &&& (2147483647 : Int32)) % R)), .val (.int ((x1 &&& (2147483647 : Int32)) % B)), .val (.ref b17), .val (.long ((R.toInt64) - (1 : Int64))), .second, .val (.long ((B.toInt64) - (1 : Int64))), .second, .val (.int (0 : Int32)), .unset]) rfl ?_
        show Steps p.tables e below (T18.setTop (mkF m 94 #[.val (.int x0), .val (.int x1), .val (.int x2), .val (.int x3), .val (.int x4), .val (.int x5), .val (.int R), .val (.int B), .val (.int ((x0 &&& (2147483647 : Int32)) % R)), .val (.int ((x1 &&& (2147483647 : Int32)) % B)), .val (.ref b17), .val (.long ((R.toInt64) - (1 : Int64))), .second, .val (.long ((B.toInt64) - (1 : Int64))), .second, .val (.int (0 : Int32)), .unset] [])) _
        refine XS.aload X18.here hx rfl (hb hby at_94) rfl rfl ?_
        show Steps p.tables e below (T18.setTop (mkF m 96 #[.val (.int x0), .val (.int x1), .val (.int x2), .val (.int x3), .val (.int x4), .val (.int x5), .val (.int R), .val (.int B), .val (.int ((x0 &&& (2147483647 : Int32)) % R)), .val (.int ((x1 &&& (2147483647 : Int32)) % B)), .val (.ref b17), .val (.long ((R.toInt64) - (1 : Int64))), .second, .val (.long ((B.toInt64) - (1 : Int64))), .second, .val (.int (0 : Int32)), .unset] [(.ref b17)])) _
        refine XS.iload X18.here hx rfl (hb hby at_96) rfl ?_
        show Steps p.tables e below (T18.setTop (mkF m 98 #[.val (.int x0), .val (.int x1), .val (.int x2), .val (.int x3), .val (.int x4), .val (.int x5), .val (.int R), .val (.int B), .val (.int ((x0 &&& (2147483647 : Int32)) % R)), .val (.int ((x1 &&& (2147483647 : Int32)) % B)), .val (.ref b17), .val (.long ((R.toInt64) - (1 : Int64))), .second, .val (.long ((B.toInt64) - (1 : Int64))), .second, .val (.int (0 : Int32)), .unset] [(.int x4), (.ref b17)])) _
        refine XS.iload X18.here hx rfl (hb hby at_98) rfl ?_
        show Steps p.tables e below (T18.setTop (mkF m 100 #[.val (.int x0), .val (.int x1), .val (.int x2), .val (.int x3), .val (.int x4), .val (.int x5), .val (.int R), .val (.int B), .val (.int ((x0 &&& (2147483647 : Int32)) % R)), .val (.int ((x1 &&& (2147483647 : Int32)) % B)), .val (.ref b17), .val (.long ((R.toInt64) - (1 : Int64))), .second, .val (.long ((B.toInt64) - (1 : Int64))), .second, .val (.int (0 : Int32)), .unset] [(.int x5), (.int x4), (.ref b17)])) _
        refine st28.trans ?_
        show Steps p.tables e below (T28.setTop (mkF m 103 #[.val (.int x0), .val (.int x1), .val (.int x2), .val (.int x3), .val (.int x4), .val (.int x5), .val (.int R), .val (.int B), .val (.int ((x0 &&& (2147483647 : Int32)) % R)), .val (.int ((x1 &&& (2147483647 : Int32)) % B)), .val (.ref b17), .val (.long ((R.toInt64) - (1 : Int64))), .second, .val (.long ((B.toInt64) - (1 : Int64))), .second, .val (.int (0 : Int32)), .unset] [(.int (0 : Int32))])) _
        refine XS.iload X28.here hx rfl (hb hby at_103) rfl ?_
        show Steps p.tables e below (T28.setTop (mkF m 105 #[.val (.int x0), .val (.int x1), .val (.int x2), .val (.int x3), .val (.int x4), .val (.int x5), .val (.int R), .val (.int B), .val (.int ((x0 &&& (2147483647 : Int32)) % R)), .val (.int ((x1 &&& (2147483647 : Int32)) % B)), .val (.ref b17), .val (.long ((R.toInt64) - (1 : Int64))), .second, .val (.long ((B.toInt64) - (1 : Int64))), .second, .val (.int (0 : Int32)), .unset] [(.int (0 : Int32)), (.int (0 : Int32))])) _
        refine XS.icmpNo X28.here hx rfl (hb hby at_105) rfl (teq (by decide : (0 : Int32) = (0 : Int32))).2 ?_
        show Steps p.tables e below (T28.setTop (mkF m 108 #[.val (.int x0), .val (.int x1), .val (.int x2), .val (.int x3), .val (.int x4), .val (.int x5), .val (.int R), .val (.int B), .val (.int ((x0 &&& (2147483647 : Int32)) % R)), .val (.int ((x1 &&& (2147483647 : Int32)) % B)), .val (.ref b17), .val (.long ((R.toInt64) - (1 : Int64))), .second, .val (.long ((B.toInt64) - (1 : Int64))), .second, .val (.int (0 : Int32)), .unset] [])) _
        refine XS.iconst X28.here hx rfl (hb hby at_108) ?_
        show Steps p.tables e below (T28.setTop (mkF m 109 #[.val (.int x0), .val (.int x1), .val (.int x2), .val (.int x3), .val (.int x4), .val (.int x5), .val (.int R), .val (.int B), .val (.int ((x0 &&& (2147483647 : Int32)) % R)), .val (.int ((x1 &&& (2147483647 : Int32)) % B)), .val (.ref b17), .val (.long ((R.toInt64) - (1 : Int64))), .second, .val (.long ((B.toInt64) - (1 : Int64))), .second, .val (.int (0 : Int32)), .unset] [(.int (1 : Int32))])) _
        refine XS.goto X28.here hx rfl (pc0 := 109) (pc' := 113) rfl (hb hby at_109) (by decide) (by decide) ?_
        show Steps p.tables e below (T28.setTop (mkF m 113 #[.val (.int x0), .val (.int x1), .val (.int x2), .val (.int x3), .val (.int x4), .val (.int x5), .val (.int R), .val (.int B), .val (.int ((x0 &&& (2147483647 : Int32)) % R)), .val (.int ((x1 &&& (2147483647 : Int32)) % B)), .val (.ref b17), .val (.long ((R.toInt64) - (1 : Int64))), .second, .val (.long ((B.toInt64) - (1 : Int64))), .second, .val (.int (0 : Int32)), .unset] [(.int (1 : Int32))])) _
        refine XS.istore X28.here hx rfl (hb hby at_113) rfl (l' := #[.val (.int x0), .val (.int x1), .val (.int x2), .val (.int x3), .val (.int x4), .val (.int x5), .val (.int R), .val (.int B), .val (.int ((x0 &&& (2147483647 : Int32)) % R)), .val (.int ((x1 &&& (2147483647 : Int32)) % B)), .val (.ref b17), .val (.long ((R.toInt64) - (1 : Int64))), .second, .val (.long ((B.toInt64) - (1 : Int64))), .second, .val (.int (0 : Int32)), .val (.int (1 : Int32))]) rfl ?_
        show Steps p.tables e below (T28.setTop (mkF m 115 #[.val (.int x0), .val (.int x1), .val (.int x2), .val (.int x3), .val (.int x4), .val (.int x5), .val (.int R), .val (.int B), .val (.int ((x0 &&& (2147483647 : Int32)) % R)), .val (.int ((x1 &&& (2147483647 : Int32)) % B)), .val (.ref b17), .val (.long ((R.toInt64) - (1 : Int64))), .second, .val (.long ((B.toInt64) - (1 : Int64))), .second, .val (.int (0 : Int32)), .val (.int (1 : Int32))] [])) _
        refine XS.iload X28.here hx rfl (hb hby at_115) rfl ?_
        show Steps p.tables e below (T28.setTop (mkF m 117 #[.val (.int x0), .val (.int x1), .val (.int x2), .val (.int x3), .val (.int x4), .val (.int x5), .val (.int R), .val (.int B), .val (.int ((x0 &&& (2147483647 : Int32)) % R)), .val (.int ((x1 &&& (2147483647 : Int32)) % B)), .val (.ref b17), .val (.long ((R.toInt64) - (1 : Int64))), .second, .val (.long ((B.toInt64) - (1 : Int64))), .second, .val (.int (0 : Int32)), .val (.int (1 : Int32))] [(.int (1 : Int32))])) _
        refine XS.ifNo X28.here hx rfl (hb hby at_117) rfl ((if0 _ _).trans (feq (by decide : ¬ ((1 : Int32) = (0 : Int32)))).1) ?_
        show Steps p.tables e below (T28.setTop (mkF m 120 #[.val (.int x0), .val (.int x1), .val (.int x2), .val (.int x3), .val (.int x4), .val (.int x5), .val (.int R), .val (.int B), .val (.int ((x0 &&& (2147483647 : Int32)) % R)), .val (.int ((x1 &&& (2147483647 : Int32)) % B)), .val (.ref b17), .val (.long ((R.toInt64) - (1 : Int64))), .second, .val (.long ((B.toInt64) - (1 : Int64))), .second, .val (.int (0 : Int32)), .val (.int (1 : Int32))] [])) _
        refine XS.aload X28.here hx rfl (hb hby at_120) rfl rfl ?_
        show Steps p.tables e below (T28.setTop (mkF m 122 #[.val (.int x0), .val (.int x1), .val (.int x2), .val (.int x3), .val (.int x4), .val (.int x5), .val (.int R), .val (.int B), .val (.int ((x0 &&& (2147483647 : Int32)) % R)), .val (.int ((x1 &&& (2147483647 : Int32)) % B)), .val (.ref b17), .val (.long ((R.toInt64) - (1 : Int64))), .second, .val (.long ((B.toInt64) - (1 : Int64))), .second, .val (.int (0 : Int32)), .val (.int (1 : Int32))] [(.ref b17)])) _
        refine XS.iload X28.here hx rfl (hb hby at_122) rfl ?_
        show Steps p.tables e below (T28.setTop (mkF m 124 #[.val (.int x0), .val (.int x1), .val (.int x2), .val (.int x3), .val (.int x4), .val (.int x5), .val (.int R), .val (.int B), .val (.int ((x0 &&& (2147483647 : Int32)) % R)), .val (.int ((x1 &&& (2147483647 : Int32)) % B)), .val (.ref b17), .val (.long ((R.toInt64) - (1 : Int64))), .second, .val (.long ((B.toInt64) - (1 : Int64))), .second, .val (.int (0 : Int32)), .val (.int (1 : Int32))] [(.int R), (.ref b17)])) _
        refine XS.iload X28.here hx rfl (hb hby at_124) rfl ?_
        show Steps p.tables e below (T28.setTop (mkF m 126 #[.val (.int x0), .val (.int x1), .val (.int x2), .val (.int x3), .val (.int x4), .val (.int x5), .val (.int R), .val (.int B), .val (.int ((x0 &&& (2147483647 : Int32)) % R)), .val (.int ((x1 &&& (2147483647 : Int32)) % B)), .val (.ref b17), .val (.long ((R.toInt64) - (1 : Int64))), .second, .val (.long ((B.toInt64) - (1 : Int64))), .second, .val (.int (0 : Int32)), .val (.int (1 : Int32))] [(.int B), (.int R), (.ref b17)])) _
        refine st29.trans ?_
        show Steps p.tables e below (T29.setTop (mkF m 129 #[.val (.int x0), .val (.int x1), .val (.int x2), .val (.int x3), .val (.int x4), .val (.int x5), .val (.int R), .val (.int B), .val (.int ((x0 &&& (2147483647 : Int32)) % R)), .val (.int ((x1 &&& (2147483647 : Int32)) % B)), .val (.ref b17), .val (.long ((R.toInt64) - (1 : Int64))), .second, .val (.long ((B.toInt64) - (1 : Int64))), .second, .val (.int (0 : Int32)), .val (.int (1 : Int32))] [(.int (1 : Int32))])) _
        refine XS.ifNo X29.here hx rfl (hb hby at_129) rfl ((if0 _ _).trans (feq (by decide : ¬ ((1 : Int32) = (0 : Int32)))).1) ?_
        show Steps p.tables e below (T29.setTop (mkF m 132 #[.val (.int x0), .val (.int x1), .val (.int x2), .val (.int x3), .val (.int x4), .val (.int x5), .val (.int R), .val (.int B), .val (.int ((x0 &&& (2147483647 : Int32)) % R)), .val (.int ((x1 &&& (2147483647 : Int32)) % B)), .val (.ref b17), .val (.long ((R.toInt64) - (1 : Int64))), .second, .val (.long ((B.toInt64) - (1 : Int64))), .second, .val (.int (0 : Int32)), .val (.int (1 : Int32))] [])) _
        refine XS.iconst X29.here hx rfl (hb hby at_132) ?_
        show Steps p.tables e below (T29.setTop (mkF m 133 #[.val (.int x0), .val (.int x1), .val (.int x2), .val (.int x3), .val (.int x4), .val (.int x5), .val (.int R), .val (.int B), .val (.int ((x0 &&& (2147483647 : Int32)) % R)), .val (.int ((x1 &&& (2147483647 : Int32)) % B)), .val (.ref b17), .val (.long ((R.toInt64) - (1 : Int64))), .second, .val (.long ((B.toInt64) - (1 : Int64))), .second, .val (.int (0 : Int32)), .val (.int (1 : Int32))] [(.int (1 : Int32))])) _
        refine XS.goto X29.here hx rfl (pc0 := 133) (pc' := 137) rfl (hb hby at_133) (by decide) (by decide) ?_
        show Steps p.tables e below (T29.setTop (mkF m 137 #[.val (.int x0), .val (.int x1), .val (.int x2), .val (.int x3), .val (.int x4), .val (.int x5), .val (.int R), .val (.int B), .val (.int ((x0 &&& (2147483647 : Int32)) % R)), .val (.int ((x1 &&& (2147483647 : Int32)) % B)), .val (.ref b17), .val (.long ((R.toInt64) - (1 : Int64))), .second, .val (.long ((B.toInt64) - (1 : Int64))), .second, .val (.int (0 : Int32)), .val (.int (1 : Int32))] [(.int (1 : Int32))])) _
        refine XS.istore X29.here hx rfl (hb hby at_137) rfl (l' := #[.val (.int x0), .val (.int x1), .val (.int x2), .val (.int x3), .val (.int x4), .val (.int x5), .val (.int R), .val (.int B), .val (.int ((x0 &&& (2147483647 : Int32)) % R)), .val (.int ((x1 &&& (2147483647 : Int32)) % B)), .val (.ref b17), .val (.long ((R.toInt64) - (1 : Int64))), .second, .val (.long ((B.toInt64) - (1 : Int64))), .second, .val (.int (0 : Int32)), .val (.int (1 : Int32))]) rfl ?_
        show Steps p.tables e below (T29.setTop (mkF m 139 #[.val (.int x0), .val (.int x1), .val (.int x2), .val (.int x3), .val (.int x4), .val (.int x5), .val (.int R), .val (.int B), .val (.int ((x0 &&& (2147483647 : Int32)) % R)), .val (.int ((x1 &&& (2147483647 : Int32)) % B)), .val (.ref b17), .val (.long ((R.toInt64) - (1 : Int64))), .second, .val (.long ((B.toInt64) - (1 : Int64))), .second, .val (.int (0 : Int32)), .val (.int (1 : Int32))] [])) _
        refine XS.iload X29.here hx rfl (hb hby at_139) rfl ?_
        show Steps p.tables e below (T29.setTop (mkF m 141 #[.val (.int x0), .val (.int x1), .val (.int x2), .val (.int x3), .val (.int x4), .val (.int x5), .val (.int R), .val (.int B), .val (.int ((x0 &&& (2147483647 : Int32)) % R)), .val (.int ((x1 &&& (2147483647 : Int32)) % B)), .val (.ref b17), .val (.long ((R.toInt64) - (1 : Int64))), .second, .val (.long ((B.toInt64) - (1 : Int64))), .second, .val (.int (0 : Int32)), .val (.int (1 : Int32))] [(.int (1 : Int32))])) _
        refine XS.ifNo X29.here hx rfl (hb hby at_141) rfl ((if0 _ _).trans (feq (by decide : ¬ ((1 : Int32) = (0 : Int32)))).1) ?_
        show Steps p.tables e below (T29.setTop (mkF m 144 #[.val (.int x0), .val (.int x1), .val (.int x2), .val (.int x3), .val (.int x4), .val (.int x5), .val (.int R), .val (.int B), .val (.int ((x0 &&& (2147483647 : Int32)) % R)), .val (.int ((x1 &&& (2147483647 : Int32)) % B)), .val (.ref b17), .val (.long ((R.toInt64) - (1 : Int64))), .second, .val (.long ((B.toInt64) - (1 : Int64))), .second, .val (.int (0 : Int32)), .val (.int (1 : Int32))] [])) _
        refine XS.aload X29.here hx rfl (hb hby at_144) rfl rfl ?_
        show Steps p.tables e below (T29.setTop (mkF m 146 #[.val (.int x0), .val (.int x1), .val (.int x2), .val (.int x3), .val (.int x4), .val (.int x5), .val (.int R), .val (.int B), .val (.int ((x0 &&& (2147483647 : Int32)) % R)), .val (.int ((x1 &&& (2147483647 : Int32)) % B)), .val (.ref b17), .val (.long ((R.toInt64) - (1 : Int64))), .second, .val (.long ((B.toInt64) - (1 : Int64))), .second, .val (.int (0 : Int32)), .val (.int (1 : Int32))] [(.ref b17)])) _
        refine XS.iload X29.here hx rfl (hb hby at_146) rfl ?_
        show Steps p.tables e below (T29.setTop (mkF m 148 #[.val (.int x0), .val (.int x1), .val (.int x2), .val (.int x3), .val (.int x4), .val (.int x5), .val (.int R), .val (.int B), .val (.int ((x0 &&& (2147483647 : Int32)) % R)), .val (.int ((x1 &&& (2147483647 : Int32)) % B)), .val (.ref b17), .val (.long ((R.toInt64) - (1 : Int64))), .second, .val (.long ((B.toInt64) - (1 : Int64))), .second, .val (.int (0 : Int32)), .val (.int (1 : Int32))] [(.int R), (.ref b17)])) _
        refine XS.iconst X29.here hx rfl (hb hby at_148) ?_
        show Steps p.tables e below (T29.setTop (mkF m 149 #[.val (.int x0), .val (.int x1), .val (.int x2), .val (.int x3), .val (.int x4), .val (.int x5), .val (.int R), .val (.int B), .val (.int ((x0 &&& (2147483647 : Int32)) % R)), .val (.int ((x1 &&& (2147483647 : Int32)) % B)), .val (.ref b17), .val (.long ((R.toInt64) - (1 : Int64))), .second, .val (.long ((B.toInt64) - (1 : Int64))), .second, .val (.int (0 : Int32)), .val (.int (1 : Int32))] [(.int (1 : Int32)), (.int R), (.ref b17)])) _
        refine XS.isub X29.here hx rfl (hb hby at_149) rfl ?_
        show Steps p.tables e below (T29.setTop (mkF m 150 #[.val (.int x0), .val (.int x1), .val (.int x2), .val (.int x3), .val (.int x4), .val (.int x5), .val (.int R), .val (.int B), .val (.int ((x0 &&& (2147483647 : Int32)) % R)), .val (.int ((x1 &&& (2147483647 : Int32)) % B)), .val (.ref b17), .val (.long ((R.toInt64) - (1 : Int64))), .second, .val (.long ((B.toInt64) - (1 : Int64))), .second, .val (.int (0 : Int32)), .val (.int (1 : Int32))] [(.int (R - (1 : Int32))), (.ref b17)])) _
        refine XS.iload X29.here hx rfl (hb hby at_150) rfl ?_
        show Steps p.tables e below (T29.setTop (mkF m 152 #[.val (.int x0), .val (.int x1), .val (.int x2), .val (.int x3), .val (.int x4), .val (.int x5), .val (.int R), .val (.int B), .val (.int ((x0 &&& (2147483647 : Int32)) % R)), .val (.int ((x1 &&& (2147483647 : Int32)) % B)), .val (.ref b17), .val (.long ((R.toInt64) - (1 : Int64))), .second, .val (.long ((B.toInt64) - (1 : Int64))), .second, .val (.int (0 : Int32)), .val (.int (1 : Int32))] [(.int B), (.int (R - (1 : Int32))), (.ref b17)])) _
        refine st30.trans ?_
        show Steps p.tables e below (T30.setTop (mkF m 155 #[.val (.int x0), .val (.int x1), .val (.int x2), .val (.int x3), .val (.int x4), .val (.int x5), .val (.int R), .val (.int B), .val (.int ((x0 &&& (2147483647 : Int32)) % R)), .val (.int ((x1 &&& (2147483647 : Int32)) % B)), .val (.ref b17), .val (.long ((R.toInt64) - (1 : Int64))), .second, .val (.long ((B.toInt64) - (1 : Int64))), .second, .val (.int (0 : Int32)), .val (.int (1 : Int32))] [(.int (0 : Int32))])) _
        refine XS.ifNo X30.here hx rfl (hb hby at_155) rfl ((if0 _ _).trans (teq (by decide : (0 : Int32) = (0 : Int32))).2) ?_
        show Steps p.tables e below (T30.setTop (mkF m 158 #[.val (.int x0), .val (.int x1), .val (.int x2), .val (.int x3), .val (.int x4), .val (.int x5), .val (.int R), .val (.int B), .val (.int ((x0 &&& (2147483647 : Int32)) % R)), .val (.int ((x1 &&& (2147483647 : Int32)) % B)), .val (.ref b17), .val (.long ((R.toInt64) - (1 : Int64))), .second, .val (.long ((B.toInt64) - (1 : Int64))), .second, .val (.int (0 : Int32)), .val (.int (1 : Int32))] [])) _
        refine XS.iconst X30.here hx rfl (hb hby at_158) ?_
        show Steps p.tables e below (T30.setTop (mkF m 159 #[.val (.int x0), .val (.int x1), .val (.int x2), .val (.int x3), .val (.int x4), .val (.int x5), .val (.int R), .val (.int B), .val (.int ((x0 &&& (2147483647 : Int32)) % R)), .val (.int ((x1 &&& (2147483647 : Int32)) % B)), .val (.ref b17), .val (.long ((R.toInt64) - (1 : Int64))), .second, .val (.long ((B.toInt64) - (1 : Int64))), .second, .val (.int (0 : Int32)), .val (.int (1 : Int32))] [(.int (1 : Int32))])) _
        refine XS.goto X30.here hx rfl (pc0 := 159) (pc' := 163) rfl (hb hby at_159) (by decide) (by decide) ?_
        show Steps p.tables e below (T30.setTop (mkF m 163 #[.val (.int x0), .val (.int x1), .val (.int x2), .val (.int x3), .val (.int x4), .val (.int x5), .val (.int R), .val (.int B), .val (.int ((x0 &&& (2147483647 : Int32)) % R)), .val (.int ((x1 &&& (2147483647 : Int32)) % B)), .val (.ref b17), .val (.long ((R.toInt64) - (1 : Int64))), .second, .val (.long ((B.toInt64) - (1 : Int64))), .second, .val (.int (0 : Int32)), .val (.int (1 : Int32))] [(.int (1 : Int32))])) _
        refine XS.istore X30.here hx rfl (hb hby at_163) rfl (l' := #[.val (.int x0), .val (.int x1), .val (.int x2), .val (.int x3), .val (.int x4), .val (.int x5), .val (.int R), .val (.int B), .val (.int ((x0 &&& (2147483647 : Int32)) % R)), .val (.int ((x1 &&& (2147483647 : Int32)) % B)), .val (.ref b17), .val (.long ((R.toInt64) - (1 : Int64))), .second, .val (.long ((B.toInt64) - (1 : Int64))), .second, .val (.int (0 : Int32)), .val (.int (1 : Int32))]) rfl ?_
        show Steps p.tables e below (T30.setTop (mkF m 165 #[.val (.int x0), .val (.int x1), .val (.int x2), .val (.int x3), .val (.int x4), .val (.int x5), .val (.int R), .val (.int B), .val (.int ((x0 &&& (2147483647 : Int32)) % R)), .val (.int ((x1 &&& (2147483647 : Int32)) % B)), .val (.ref b17), .val (.long ((R.toInt64) - (1 : Int64))), .second, .val (.long ((B.toInt64) - (1 : Int64))), .second, .val (.int (0 : Int32)), .val (.int (1 : Int32))] [])) _
        refine XS.iload X30.here hx rfl (hb hby at_165) rfl ?_
        show Steps p.tables e below (T30.setTop (mkF m 167 #[.val (.int x0), .val (.int x1), .val (.int x2), .val (.int x3), .val (.int x4), .val (.int x5), .val (.int R), .val (.int B), .val (.int ((x0 &&& (2147483647 : Int32)) % R)), .val (.int ((x1 &&& (2147483647 : Int32)) % B)), .val (.ref b17), .val (.long ((R.toInt64) - (1 : Int64))), .second, .val (.long ((B.toInt64) - (1 : Int64))), .second, .val (.int (0 : Int32)), .val (.int (1 : Int32))] [(.int (1 : Int32))])) _
        refine XS.ifNo X30.here hx rfl (hb hby at_167) rfl ((if0 _ _).trans (feq (by decide : ¬ ((1 : Int32) = (0 : Int32)))).1) ?_
        show Steps p.tables e below (T30.setTop (mkF m 170 #[.val (.int x0), .val (.int x1), .val (.int x2), .val (.int x3), .val (.int x4), .val (.int x5), .val (.int R), .val (.int B), .val (.int ((x0 &&& (2147483647 : Int32)) % R)), .val (.int ((x1 &&& (2147483647 : Int32)) % B)), .val (.ref b17), .val (.long ((R.toInt64) - (1 : Int64))), .second, .val (.long ((B.toInt64) - (1 : Int64))), .second, .val (.int (0 : Int32)), .val (.int (1 : Int32))] [])) _
        refine XS.aload X30.here hx rfl (hb hby at_170) rfl rfl ?_
        show Steps p.tables e below (T30.setTop (mkF m 172 #[.val (.int x0), .val (.int x1), .val (.int x2), .val (.int x3), .val (.int x4), .val (.int x5), .val (.int R), .val (.int B), .val (.int ((x0 &&& (2147483647 : Int32)) % R)), .val (.int ((x1 &&& (2147483647 : Int32)) % B)), .val (.ref b17), .val (.long ((R.toInt64) - (1 : Int64))), .second, .val (.long ((B.toInt64) - (1 : Int64))), .second, .val (.int (0 : Int32)), .val (.int (1 : Int32))] [(.ref b17)])) _
        refine XS.iload X30.here hx rfl (hb hby at_172) rfl ?_
        show Steps p.tables e below (T30.setTop (mkF m 174 #[.val (.int x0), .val (.int x1), .val (.int x2), .val (.int x3), .val (.int x4), .val (.int x5), .val (.int R), .val (.int B), .val (.int ((x0 &&& (2147483647 : Int32)) % R)), .val (.int ((x1 &&& (2147483647 : Int32)) % B)), .val (.ref b17), .val (.long ((R.toInt64) - (1 : Int64))), .second, .val (.long ((B.toInt64) - (1 : Int64))), .second, .val (.int (0 : Int32)), .val (.int (1 : Int32))] [(.int R), (.ref b17)])) _
        refine XS.iload X30.here hx rfl (hb hby at_174) rfl ?_
        show Steps p.tables e below (T30.setTop (mkF m 176 #[.val (.int x0), .val (.int x1), .val (.int x2), .val (.int x3), .val (.int x4), .val (.int x5), .val (.int R), .val (.int B), .val (.int ((x0 &&& (2147483647 : Int32)) % R)), .val (.int ((x1 &&& (2147483647 : Int32)) % B)), .val (.ref b17), .val (.long ((R.toInt64) - (1 : Int64))), .second, .val (.long ((B.toInt64) - (1 : Int64))), .second, .val (.int (0 : Int32)), .val (.int (1 : Int32))] [(.int B), (.int R), (.ref b17)])) _
        refine XS.iconst X30.here hx rfl (hb hby at_176) ?_
        show Steps p.tables e below (T30.setTop (mkF m 177 #[.val (.int x0), .val (.int x1), .val (.int x2), .val (.int x3), .val (.int x4), .val (.int x5), .val (.int R), .val (.int B), .val (.int ((x0 &&& (2147483647 : Int32)) % R)), .val (.int ((x1 &&& (2147483647 : Int32)) % B)), .val (.ref b17), .val (.long ((R.toInt64) - (1 : Int64))), .second, .val (.long ((B.toInt64) - (1 : Int64))), .second, .val (.int (0 : Int32)), .val (.int (1 : Int32))] [(.int (1 : Int32)), (.int B), (.int R), (.ref b17)])) _
        refine XS.isub X30.here hx rfl (hb hby at_177) rfl ?_
        show Steps p.tables e below (T30.setTop (mkF m 178 #[.val (.int x0), .val (.int x1), .val (.int x2), .val (.int x3), .val (.int x4), .val (.int x5), .val (.int R), .val (.int B), .val (.int ((x0 &&& (2147483647 : Int32)) % R)), .val (.int ((x1 &&& (2147483647 : Int32)) % B)), .val (.ref b17), .val (.long ((R.toInt64) - (1 : Int64))), .second, .val (.long ((B.toInt64) - (1 : Int64))), .second, .val (.int (0 : Int32)), .val (.int (1 : Int32))] [(.int (B - (1 : Int32))), (.int R), (.ref b17)])) _
        refine st31.trans ?_
        show Steps p.tables e below (T31.setTop (mkF m 181 #[.val (.int x0), .val (.int x1), .val (.int x2), .val (.int x3), .val (.int x4), .val (.int x5), .val (.int R), .val (.int B), .val (.int ((x0 &&& (2147483647 : Int32)) % R)), .val (.int ((x1 &&& (2147483647 : Int32)) % B)), .val (.ref b17), .val (.long ((R.toInt64) - (1 : Int64))), .second, .val (.long ((B.toInt64) - (1 : Int64))), .second, .val (.int (0 : Int32)), .val (.int (1 : Int32))] [(.int (0 : Int32))])) _
        refine XS.ifNo X31.here hx rfl (hb hby at_181) rfl ((if0 _ _).trans (teq (by decide : (0 : Int32) = (0 : Int32))).2) ?_
        show Steps p.tables e below (T31.setTop (mkF m 184 #[.val (.int x0), .val (.int x1), .val (.int x2), .val (.int x3), .val (.int x4), .val (.int x5), .val (.int R), .val (.int B), .val (.int ((x0 &&& (2147483647 : Int32)) % R)), .val (.int ((x1 &&& (2147483647 : Int32)) % B)), .val (.ref b17), .val (.long ((R.toInt64) - (1 : Int64))), .second, .val (.long ((B.toInt64) - (1 : Int64))), .second, .val (.int (0 : Int32)), .val (.int (1 : Int32))] [])) _
        refine XS.iconst X31.here hx rfl (hb hby at_184) ?_
        show Steps p.tables e below (T31.setTop (mkF m 185 #[.val (.int x0), .val (.int x1), .val (.int x2), .val (.int x3), .val (.int x4), .val (.int x5), .val (.int R), .val (.int B), .val (.int ((x0 &&& (2147483647 : Int32)) % R)), .val (.int ((x1 &&& (2147483647 : Int32)) % B)), .val (.ref b17), .val (.long ((R.toInt64) - (1 : Int64))), .second, .val (.long ((B.toInt64) - (1 : Int64))), .second, .val (.int (0 : Int32)), .val (.int (1 : Int32))] [(.int (1 : Int32))])) _
        refine XS.goto X31.here hx rfl (pc0 := 185) (pc' := 189) rfl (hb hby at_185) (by decide) (by decide) ?_
        show Steps p.tables e below (T31.setTop (mkF m 189 #[.val (.int x0), .val (.int x1), .val (.int x2), .val (.int x3), .val (.int x4), .val (.int x5), .val (.int R), .val (.int B), .val (.int ((x0 &&& (2147483647 : Int32)) % R)), .val (.int ((x1 &&& (2147483647 : Int32)) % B)), .val (.ref b17), .val (.long ((R.toInt64) - (1 : Int64))), .second, .val (.long ((B.toInt64) - (1 : Int64))), .second, .val (.int (0 : Int32)), .val (.int (1 : Int32))] [(.int (1 : Int32))])) _
        refine XS.istore X31.here hx rfl (hb hby at_189) rfl (l' := #[.val (.int x0), .val (.int x1), .val (.int x2), .val (.int x3), .val (.int x4), .val (.int x5), .val (.int R), .val (.int B), .val (.int ((x0 &&& (2147483647 : Int32)) % R)), .val (.int ((x1 &&& (2147483647 : Int32)) % B)), .val (.ref b17), .val (.long ((R.toInt64) - (1 : Int64))), .second, .val (.long ((B.toInt64) - (1 : Int64))), .second, .val (.int (0 : Int32)), .val (.int (1 : Int32))]) rfl ?_
        show Steps p.tables e below (T31.setTop (mkF m 191 #[.val (.int x0), .val (.int x1), .val (.int x2), .val (.int x3), .val (.int x4), .val (.int x5), .val (.int R), .val (.int B), .val (.int ((x0 &&& (2147483647 : Int32)) % R)), .val (.int ((x1 &&& (2147483647 : Int32)) % B)), .val (.ref b17), .val (.long ((R.toInt64) - (1 : Int64))), .second, .val (.long ((B.toInt64) - (1 : Int64))), .second, .val (.int (0 : Int32)), .val (.int (1 : Int32))] [])) _
        refine XS.iload X31.here hx rfl (hb hby at_191) rfl ?_
        show Steps p.tables e below (T31.setTop (mkF m 193 #[.val (.int x0), .val (.int x1), .val (.int x2), .val (.int x3), .val (.int x4), .val (.int x5), .val (.int R), .val (.int B), .val (.int ((x0 &&& (2147483647 : Int32)) % R)), .val (.int ((x1 &&& (2147483647 : Int32)) % B)), .val (.ref b17), .val (.long ((R.toInt64) - (1 : Int64))), .second, .val (.long ((B.toInt64) - (1 : Int64))), .second, .val (.int (0 : Int32)), .val (.int (1 : Int32))] [(.int (1 : Int32))])) _
        refine XS.ifNo X31.here hx rfl (hb hby at_193) rfl ((if0 _ _).trans (feq (by decide : ¬ ((1 : Int32) = (0 : Int32)))).1) ?_
        show Steps p.tables e below (T31.setTop (mkF m 196 #[.val (.int x0), .val (.int x1), .val (.int x2), .val (.int x3), .val (.int x4), .val (.int x5), .val (.int R), .val (.int B), .val (.int ((x0 &&& (2147483647 : Int32)) % R)), .val (.int ((x1 &&& (2147483647 : Int32)) % B)), .val (.ref b17), .val (.long ((R.toInt64) - (1 : Int64))), .second, .val (.long ((B.toInt64) - (1 : Int64))), .second, .val (.int (0 : Int32)), .val (.int (1 : Int32))] [])) _
        refine XS.aload X31.here hx rfl (hb hby at_196) rfl rfl ?_
        show Steps p.tables e below (T31.setTop (mkF m 198 #[.val (.int x0), .val (.int x1), .val (.int x2), .val (.int x3), .val (.int x4), .val (.int x5), .val (.int R), .val (.int B), .val (.int ((x0 &&& (2147483647 : Int32)) % R)), .val (.int ((x1 &&& (2147483647 : Int32)) % B)), .val (.ref b17), .val (.long ((R.toInt64) - (1 : Int64))), .second, .val (.long ((B.toInt64) - (1 : Int64))), .second, .val (.int (0 : Int32)), .val (.int (1 : Int32))] [(.ref b17)])) _
        refine X31.ldcInt hx hown (mvT hZ (hw _ (List.mem_of_getElem? (i := 0) rfl))) (g := (mkF m 198 #[.val (.int x0), .val (.int x1), .val (.int x2), .val (.int x3), .val (.int x4), .val (.int x5), .val (.int R), .val (.int B), .val (.int ((x0 &&& (2147483647 : Int32)) % R)), .val (.int ((x1 &&& (2147483647 : Int32)) % B)), .val (.ref b17), .val (.long ((R.toInt64) - (1 : Int64))), .second, .val (.long ((B.toInt64) - (1 : Int64))), .second, .val (.int (0 : Int32)), .val (.int (1 : Int32))] [(.ref b17)])) rfl (hb hby at_198) _ ?_
        show Steps p.tables e below (T31.setTop (mkF m 200 #[.val (.int x0), .val (.int x1), .val (.int x2), .val (.int x3), .val (.int x4), .val (.int x5), .val (.int R), .val (.int B), .val (.int ((x0 &&& (2147483647 : Int32)) % R)), .val (.int ((x1 &&& (2147483647 : Int32)) % B)), .val (.ref b17), .val (.long ((R.toInt64) - (1 : Int64))), .second, .val (.long ((B.toInt64) - (1 : Int64))), .second, .val (.int (0 : Int32)), .val (.int (1 : Int32))] [(.int (2147483647 : Int32)), (.ref b17)])) _
        refine X31.ldcInt hx hown (mvT hZ (hw _ (List.mem_of_getElem? (i := 0) rfl))) (g := (mkF m 200 #[.val (.int x0), .val (.int x1), .val (.int x2), .val (.int x3), .val (.int x4), .val (.int x5), .val (.int R), .val (.int B), .val (.int ((x0 &&& (2147483647 : Int32)) % R)), .val (.int ((x1 &&& (2147483647 : Int32)) % B)), .val (.ref b17), .val (.long ((R.toInt64) - (1 : Int64))), .second, .val (.long ((B.toInt64) - (1 : Int64))), .second, .val (.int (0 : Int32)), .val (.int (1 : Int32))] [(.int (2147483647 : Int32)), (.ref b17)])) rfl (hb hby at_200) _ ?_
        show Steps p.tables e below (T31.setTop (mkF m 202 #[.val (.int x0), .val (.int x1), .val (.int x2), .val (.int x3), .val (.int x4), .val (.int x5), .val (.int R), .val (.int B), .val (.int ((x0 &&& (2147483647 : Int32)) % R)), .val (.int ((x1 &&& (2147483647 : Int32)) % B)), .val (.ref b17), .val (.long ((R.toInt64) - (1 : Int64))), .second, .val (.long ((B.toInt64) - (1 : Int64))), .second, .val (.int (0 : Int32)), .val (.int (1 : Int32))] [(.int (2147483647 : Int32)), (.int (2147483647 : Int32)), (.ref b17)])) _
        refine st32.trans ?_
        show Steps p.tables e below (T32.setTop (mkF m 205 #[.val (.int x0), .val (.int x1), .val (.int x2), .val (.int x3), .val (.int x4), .val (.int x5), .val (.int R), .val (.int B), .val (.int ((x0 &&& (2147483647 : Int32)) % R)), .val (.int ((x1 &&& (2147483647 : Int32)) % B)), .val (.ref b17), .val (.long ((R.toInt64) - (1 : Int64))), .second, .val (.long ((B.toInt64) - (1 : Int64))), .second, .val (.int (0 : Int32)), .val (.int (1 : Int32))] [(.int (1 : Int32))])) _
        refine XS.ifNo X32.here hx rfl (hb hby at_205) rfl ((if0 _ _).trans (feq (by decide : ¬ ((1 : Int32) = (0 : Int32)))).1) ?_
        show Steps p.tables e below (T32.setTop (mkF m 208 #[.val (.int x0), .val (.int x1), .val (.int x2), .val (.int x3), .val (.int x4), .val (.int x5), .val (.int R), .val (.int B), .val (.int ((x0 &&& (2147483647 : Int32)) % R)), .val (.int ((x1 &&& (2147483647 : Int32)) % B)), .val (.ref b17), .val (.long ((R.toInt64) - (1 : Int64))), .second, .val (.long ((B.toInt64) - (1 : Int64))), .second, .val (.int (0 : Int32)), .val (.int (1 : Int32))] [])) _
        refine XS.iconst X32.here hx rfl (hb hby at_208) ?_
        show Steps p.tables e below (T32.setTop (mkF m 209 #[.val (.int x0), .val (.int x1), .val (.int x2), .val (.int x3), .val (.int x4), .val (.int x5), .val (.int R), .val (.int B), .val (.int ((x0 &&& (2147483647 : Int32)) % R)), .val (.int ((x1 &&& (2147483647 : Int32)) % B)), .val (.ref b17), .val (.long ((R.toInt64) - (1 : Int64))), .second, .val (.long ((B.toInt64) - (1 : Int64))), .second, .val (.int (0 : Int32)), .val (.int (1 : Int32))] [(.int (1 : Int32))])) _
        refine XS.goto X32.here hx rfl (pc0 := 209) (pc' := 213) rfl (hb hby at_209) (by decide) (by decide) ?_
        show Steps p.tables e below (T32.setTop (mkF m 213 #[.val (.int x0), .val (.int x1), .val (.int x2), .val (.int x3), .val (.int x4), .val (.int x5), .val (.int R), .val (.int B), .val (.int ((x0 &&& (2147483647 : Int32)) % R)), .val (.int ((x1 &&& (2147483647 : Int32)) % B)), .val (.ref b17), .val (.long ((R.toInt64) - (1 : Int64))), .second, .val (.long ((B.toInt64) - (1 : Int64))), .second, .val (.int (0 : Int32)), .val (.int (1 : Int32))] [(.int (1 : Int32))])) _
        refine XS.istore X32.here hx rfl (hb hby at_213) rfl (l' := #[.val (.int x0), .val (.int x1), .val (.int x2), .val (.int x3), .val (.int x4), .val (.int x5), .val (.int R), .val (.int B), .val (.int ((x0 &&& (2147483647 : Int32)) % R)), .val (.int ((x1 &&& (2147483647 : Int32)) % B)), .val (.ref b17), .val (.long ((R.toInt64) - (1 : Int64))), .second, .val (.long ((B.toInt64) - (1 : Int64))), .second, .val (.int (0 : Int32)), .val (.int (1 : Int32))]) rfl ?_
        show Steps p.tables e below (T32.setTop (mkF m 215 #[.val (.int x0), .val (.int x1), .val (.int x2), .val (.int x3), .val (.int x4), .val (.int x5), .val (.int R), .val (.int B), .val (.int ((x0 &&& (2147483647 : Int32)) % R)), .val (.int ((x1 &&& (2147483647 : Int32)) % B)), .val (.ref b17), .val (.long ((R.toInt64) - (1 : Int64))), .second, .val (.long ((B.toInt64) - (1 : Int64))), .second, .val (.int (0 : Int32)), .val (.int (1 : Int32))] [])) _
        refine XS.iload X32.here hx rfl (hb hby at_215) rfl ?_
        show Steps p.tables e below (T32.setTop (mkF m 217 #[.val (.int x0), .val (.int x1), .val (.int x2), .val (.int x3), .val (.int x4), .val (.int x5), .val (.int R), .val (.int B), .val (.int ((x0 &&& (2147483647 : Int32)) % R)), .val (.int ((x1 &&& (2147483647 : Int32)) % B)), .val (.ref b17), .val (.long ((R.toInt64) - (1 : Int64))), .second, .val (.long ((B.toInt64) - (1 : Int64))), .second, .val (.int (0 : Int32)), .val (.int (1 : Int32))] [(.int (1 : Int32))])) _
        exact retN X32 hx (t := .boolean) Bd.returns (by simp) (hb hby at_217) hr
      · show Q_0 Z x0 x1 x2 x3 x4 x5 R B h0 n0 _ T32.heap _
        rw [e32q]
        exact ⟨rfl, N32⟩
  · skip
    obtain ⟨cq33, kq33, q33a, q33b, q33c⟩ := isOf hZ rfl E18q
    obtain ⟨_, _, ⟨T33, L33, k33, n33⟩, -, X33, ⟨Lc33, hQ33, l33, y33, z33⟩, st33⟩ := X18.virtualBack hx (y := (⟨"com/example/frameloom/frameloom/queue/Crop", "fits", "(II)Z"⟩ : MethodName)) (z := (⟨"com/example/frameloom/frameloom/queue/Crop", "fits", "(II)Z"⟩ : MethodName)) hown (mvT hZ (hw _ (List.mem_of_getElem? (i := 27) rfl))) (mvT hZ (hw _ (List.mem_of_getElem? (i := 28) rfl))) (notFace_of_selects (args := #[]) (mvT hZ (hw _ (List.mem_of_getElem? (i := 30) rfl)))) (mvT hZ (hw _ (List.mem_of_getElem? (i := 30) rfl))) (mvT hZ (hw _ (List.mem_of_getElem? (i := 29) rfl))) (by decide) (backOf (W := 0) (rm_5 l Z a0 hw [] b17 x4 x5 R B (0 : Int32) T18.heap n0 Z18 F218q F318q (by unfold own_fits; rw [if_pos (own_ge R x4 hc20)])) hZ (hw _ (List.mem_of_getElem? (i := 31) rfl)) (hw _ (List.mem_of_getElem? (i := 7) rfl)) (by decide) (by decide)) q33a q33c (g := (mkF m 100 #[.val (.int x0), .val (.int x1), .val (.int x2), .val (.int x3), .val (.int x4), .val (.int x5), .val (.int R), .val (.int B), .val (.int ((x0 &&& (2147483647 : Int32)) % R)), .val (.int ((x1 &&& (2147483647 : Int32)) % B)), .val (.ref b17), .val (.long ((R.toInt64) - (1 : Int64))), .second, .val (.long ((B.toInt64) - (1 : Int64))), .second, .val (.int (0 : Int32)), .unset] [(.int x5), (.int x4), (.ref b17)])) rfl (by rw [hml]; rfl) (Steps.refl _) (argsL := [(.int x4), (.int x5)]) (rest := []) (lenOf pd__II_Z rfl) rfl (by show 2 * 0 + _ ≤ _; exact Nat.le_of_eq rfl) (hb hby at_100) (fun _ _ => ⟨rfl, rfl, (by decide : 1 + 0 ≤ _), (by decide : 4 + 0 ≤ _)⟩)
    dsimp only [Pt.U, Pt.locs, Pt.cells, Pt.slots] at X33 l33 y33 z33 st33 hQ33
    subst l33 y33 z33
    obtain ⟨rfl, N33q, e33q⟩ := hQ33
    have N33 := Fr.app N18 N33q
    obtain ⟨cq34, kq34, q34a, q34b, q34c⟩ := isOf hZ e33q E18q
    obtain ⟨_, _, ⟨T34, L34, k34, n34⟩, -, X34, ⟨Lc34, hQ34, l34, y34, z34⟩, st34⟩ := X33.virtualBack hx (y := (⟨"com/example/frameloom/frameloom/queue/Crop", "fits", "(II)Z"⟩ : MethodName)) (z := (⟨"com/example/frameloom/frameloom/queue/Crop", "fits", "(II)Z"⟩ : MethodName)) hown (mvT hZ (hw _ (List.mem_of_getElem? (i := 27) rfl))) (mvT hZ (hw _ (List.mem_of_getElem? (i := 28) rfl))) (notFace_of_selects (args := #[]) (mvT hZ (hw _ (List.mem_of_getElem? (i := 30) rfl)))) (mvT hZ (hw _ (List.mem_of_getElem? (i := 30) rfl))) (mvT hZ (hw _ (List.mem_of_getElem? (i := 29) rfl))) (by decide) (backOf (W := 0) (rm_5 l Z a0 hw [] b17 R B R B (1 : Int32) T18.heap n0 Z18 F218q F318q (by unfold own_fits; rw [if_neg Int32.lt_irrefl, if_neg Int32.lt_irrefl])) hZ (hw _ (List.mem_of_getElem? (i := 31) rfl)) (hw _ (List.mem_of_getElem? (i := 7) rfl)) (by decide) (by decide)) q34a q34c (g := (mkF m 126 #[.val (.int x0), .val (.int x1), .val (.int x2), .val (.int x3), .val (.int x4), .val (.int x5), .val (.int R), .val (.int B), .val (.int ((x0 &&& (2147483647 : Int32)) % R)), .val (.int ((x1 &&& (2147483647 : Int32)) % B)), .val (.ref b17), .val (.long ((R.toInt64) - (1 : Int64))), .second, .val (.long ((B.toInt64) - (1 : Int64))), .second, .val (.int (0 : Int32)), .val (.int (1 : Int32))] [(.int B), (.int R), (.ref b17)])) rfl (by rw [hml]; rfl) (Steps.refl _) (argsL := [(.int R), (.int B)]) (rest := []) (lenOf pd__II_Z rfl) rfl (by show 2 * 0 + _ ≤ _; exact Nat.le_of_eq rfl) (hb hby at_126) (fun _ _ => ⟨rfl, e33q, (by decide : 1 + 0 ≤ _), (by decide : 4 + 0 ≤ _)⟩)
    dsimp only [Pt.U, Pt.locs, Pt.cells, Pt.slots] at X34 l34 y34 z34 st34 hQ34
    subst l34 y34 z34
    obtain ⟨rfl, N34q, e34q⟩ := hQ34
    have N34 := Fr.app N33 N34q
    obtain ⟨cq35, kq35, q35a, q35b, q35c⟩ := isOf hZ e34q E18q
    obtain ⟨_, _, ⟨T35, L35, k35, n35⟩, -, X35, ⟨Lc35, hQ35, l35, y35, z35⟩, st35⟩ := X34.virtualBack hx (y := (⟨"com/example/frameloom/frameloom/queue/Crop", "fits", "(II)Z"⟩ : MethodName)) (z := (⟨"com/example/frameloom/frameloom/queue/Crop", "fits", "(II)Z"⟩ : MethodName)) hown (mvT hZ (hw _ (List.mem_of_getElem? (i := 27) rfl))) (mvT hZ (hw _ (List.mem_of_getElem? (i := 28) rfl))) (notFace_of_selects (args := #[]) (mvT hZ (hw _ (List.mem_of_getElem? (i := 30) rfl)))) (mvT hZ (hw _ (List.mem_of_getElem? (i := 30) rfl))) (mvT hZ (hw _ (List.mem_of_getElem? (i := 29) rfl))) (by decide) (backOf (W := 0) (rm_5 l Z a0 hw [] b17 (R - (1 : Int32)) B R B (0 : Int32) T18.heap n0 Z18 F218q F318q (by unfold own_fits; rw [if_pos (own_pred R hR)])) hZ (hw _ (List.mem_of_getElem? (i := 31) rfl)) (hw _ (List.mem_of_getElem? (i := 7) rfl)) (by decide) (by decide)) q35a q35c (g := (mkF m 152 #[.val (.int x0), .val (.int x1), .val (.int x2), .val (.int x3), .val (.int x4), .val (.int x5), .val (.int R), .val (.int B), .val (.int ((x0 &&& (2147483647 : Int32)) % R)), .val (.int ((x1 &&& (2147483647 : Int32)) % B)), .val (.ref b17), .val (.long ((R.toInt64) - (1 : Int64))), .second, .val (.long ((B.toInt64) - (1 : Int64))), .second, .val (.int (0 : Int32)), .val (.int (1 : Int32))] [(.int B), (.int (R - (1 : Int32))), (.ref b17)])) rfl (by rw [hml]; rfl) (Steps.refl _) (argsL := [(.int (R - (1 : Int32))), (.int B)]) (rest := []) (lenOf pd__II_Z rfl) rfl (by show 2 * 0 + _ ≤ _; exact Nat.le_of_eq rfl) (hb hby at_152) (fun _ _ => ⟨rfl, e34q, (by decide : 1 + 0 ≤ _), (by decide : 4 + 0 ≤ _)⟩)
    dsimp only [Pt.U, Pt.locs, Pt.cells, Pt.slots] at X35 l35 y35 z35 st35 hQ35
    subst l35 y35 z35
    obtain ⟨rfl, N35q, e35q⟩ := hQ35
    have N35 := Fr.app N34 N35q
    obtain ⟨cq36, kq36, q36a, q36b, q36c⟩ := isOf hZ e35q E18q
    obtain ⟨_, _, ⟨T36, L36, k36, n36⟩, -, X36, ⟨Lc36, hQ36, l36, y36, z36⟩, st36⟩ := X35.virtualBack hx (y := (⟨"com/example/frameloom/frameloom/queue/Crop", "fits", "(II)Z"⟩ : MethodName)) (z := (⟨"com/example/frameloom/frameloom/queue/Crop", "fits", "(II)Z"⟩ : MethodName)) hown (mvT hZ (hw _ (List.mem_of_getElem? (i := 27) rfl))) (mvT hZ (hw _ (List.mem_of_getElem? (i := 28) rfl))) (notFace_of_selects (args := #[]) (mvT hZ (hw _ (List.mem_of_getElem? (i := 30) rfl)))) (mvT hZ (hw _ (List.mem_of_getElem? (i := 30) rfl))) (mvT hZ (hw _ (List.mem_of_getElem? (i := 29) rfl))) (by decide) (backOf (W := 0) (rm_5 l Z a0 hw [] b17 R (B - (1 : Int32)) R B (0 : Int32) T18.heap n0 Z18 F218q F318q (by unfold own_fits; rw [if_neg Int32.lt_irrefl, if_pos (own_pred B hB)])) hZ (hw _ (List.mem_of_getElem? (i := 31) rfl)) (hw _ (List.mem_of_getElem? (i := 7) rfl)) (by decide) (by decide)) q36a q36c (g := (mkF m 178 #[.val (.int x0), .val (.int x1), .val (.int x2), .val (.int x3), .val (.int x4), .val (.int x5), .val (.int R), .val (.int B), .val (.int ((x0 &&& (2147483647 : Int32)) % R)), .val (.int ((x1 &&& (2147483647 : Int32)) % B)), .val (.ref b17), .val (.long ((R.toInt64) - (1 : Int64))), .second, .val (.long ((B.toInt64) - (1 : Int64))), .second, .val (.int (0 : Int32)), .val (.int (1 : Int32))] [(.int (B - (1 : Int32))), (.int R), (.ref b17)])) rfl (by rw [hml]; rfl) (Steps.refl _) (argsL := [(.int R), (.int (B - (1 : Int32)))]) (rest := []) (lenOf pd__II_Z rfl) rfl (by show 2 * 0 + _ ≤ _; exact Nat.le_of_eq rfl) (hb hby at_178) (fun _ _ => ⟨rfl, e35q, (by decide : 1 + 0 ≤ _), (by decide : 4 + 0 ≤ _)⟩)
    dsimp only [Pt.U, Pt.locs, Pt.cells, Pt.slots] at X36 l36 y36 z36 st36 hQ36
    subst l36 y36 z36
    obtain ⟨rfl, N36q, e36q⟩ := hQ36
    have N36 := Fr.app N35 N36q
    obtain ⟨cq37, kq37, q37a, q37b, q37c⟩ := isOf hZ e36q E18q
    obtain ⟨_, _, ⟨T37, L37, k37, n37⟩, -, X37, ⟨Lc37, hQ37, l37, y37, z37⟩, st37⟩ := X36.virtualBack hx (y := (⟨"com/example/frameloom/frameloom/queue/Crop", "fits", "(II)Z"⟩ : MethodName)) (z := (⟨"com/example/frameloom/frameloom/queue/Crop", "fits", "(II)Z"⟩ : MethodName)) hown (mvT hZ (hw _ (List.mem_of_getElem? (i := 27) rfl))) (mvT hZ (hw _ (List.mem_of_getElem? (i := 28) rfl))) (notFace_of_selects (args := #[]) (mvT hZ (hw _ (List.mem_of_getElem? (i := 30) rfl)))) (mvT hZ (hw _ (List.mem_of_getElem? (i := 30) rfl))) (mvT hZ (hw _ (List.mem_of_getElem? (i := 29) rfl))) (by decide) (backOf (W := 0) (rm_5 l Z a0 hw [] b17 (2147483647 : Int32) (2147483647 : Int32) R B (1 : Int32) T18.heap n0 Z18 F218q F318q (by unfold own_fits; rw [if_neg (own_nmax R), if_neg (own_nmax B)])) hZ (hw _ (List.mem_of_getElem? (i := 31) rfl)) (hw _ (List.mem_of_getElem? (i := 7) rfl)) (by decide) (by decide)) q37a q37c (g := (mkF m 202 #[.val (.int x0), .val (.int x1), .val (.int x2), .val (.int x3), .val (.int x4), .val (.int x5), .val (.int R), .val (.int B), .val (.int ((x0 &&& (2147483647 : Int32)) % R)), .val (.int ((x1 &&& (2147483647 : Int32)) % B)), .val (.ref b17), .val (.long ((R.toInt64) - (1 : Int64))), .second, .val (.long ((B.toInt64) - (1 : Int64))), .second, .val (.int (0 : Int32)), .val (.int (1 : Int32))] [(.int (2147483647 : Int32)), (.int (2147483647 : Int32)), (.ref b17)])) rfl (by rw [hml]; rfl) (Steps.refl _) (argsL := [(.int (2147483647 : Int32)), (.int (2147483647 : Int32))]) (rest := []) (lenOf pd__II_Z rfl) rfl (by show 2 * 0 + _ ≤ _; exact Nat.le_of_eq rfl) (hb hby at_202) (fun _ _ => ⟨rfl, e36q, (by decide : 1 + 0 ≤ _), (by decide : 4 + 0 ≤ _)⟩)
    dsimp only [Pt.U, Pt.locs, Pt.cells, Pt.slots] at X37 l37 y37 z37 st37 hQ37
    subst l37 y37 z37
    obtain ⟨rfl, N37q, e37q⟩ := hQ37
    have N37 := Fr.app N36 N37q
    obtain ⟨fs, hr, hrun, hended, hW, hsame⟩ := X37.leave (v := some (.int (1 : Int32))) (fun h => by rw [Bd.returns] at h; cases h)
    refine ⟨_, _, pw19 _ ?_, hrun, hended, _, _, rfl, ?_, ⟨_, rfl⟩, hW, hsame.mono (by decide) (by decide)⟩
    · skip
      refine XS.ifYes X18.here hx rfl (pc0 := 75) (pc' := 91) rfl (hb hby at_75) rfl ((if0 _ _).trans (flt (mt (lw_lt ((R.toInt64) - (1 : Int64)) (x4.toInt64)).1 hc20)).2.1) (by decide) (by decide) ?_
      show Steps p.tables e below (T18.setTop (mkF m 91 #[.val (.int x0), .val (.int x1), .val (.int x2), .val (.int x3), .val (.int x4), .val (.int x5), .val (.int R), .val (.int B), .val (.int ((x0 &&& (2147483647 : Int32)) % R)), .val (.int ((x1 &&& (2147483647 : Int32)) % B)), .val (.ref b17), .val (.long ((R.toInt64) - (1 : Int64))), .second, .val (.long ((B.toInt64) - (1 : Int64))), .second, .unset, .unset] [])) _
      refine XS.iconst X18.here hx rfl (hb hby at_91) ?_
      show Steps p.tables e below (T18.setTop (mkF m 92 #[.val (.int x0), .val (.int x1), .val (.int x2), .val (.int x3), .val (.int x4), .val (.int x5), .val (.int R), .val (.int B), .val (.int ((x0 &&& (2147483647 : Int32)) % R)), .val (.int ((x1 &&& (2147483647 : Int32)) % B)), .val (.ref b17), .val (.long ((R.toInt64) - (1 : Int64))), .second, .val (.long ((B.toInt64) - (1 : Int64))), .second, .unset, .unset] [(.int (0 : Int32))])) _
      refine XS.istore X18.here hx rfl (hb hby at_92) rfl (l' := #[.val (.int x0), .val (.int x1), .val (.int x2), .val (.int x3), .val (.int x4), .val (.int x5), .val (.int R), .val (.int B), .val (.int ((x0 &&& (2147483647 : Int32)) % R)), .val (.int ((x1 &&& (2147483647 : Int32)) % B)), .val (.ref b17), .val (.long ((R.toInt64) - (1 : Int64))), .second, .val (.long ((B.toInt64) - (1 : Int64))), .second, .val (.int (0 : Int32)), .unset]) rfl ?_
      show Steps p.tables e below (T18.setTop (mkF m 94 #[.val (.int x0), .val (.int x1), .val (.int x2), .val (.int x3), .val (.int x4), .val (.int x5), .val (.int R), .val (.int B), .val (.int ((x0 &&& (2147483647 : Int32)) % R)), .val (.int ((x1 &&& (2147483647 : Int32)) % B)), .val (.ref b17), .val (.long ((R.toInt64) - (1 : Int64))), .second, .val (.long ((B.toInt64) - (1 : Int64))), .second, .val (.int (0 : Int32)), .unset] [])) _
      refine XS.aload X18.here hx rfl (hb hby at_94) rfl rfl ?_
      show Steps p.tables e below (T18.setTop (mkF m 96 #[.val (.int x0), .val (.int x1), .val (.int x2), .val (.int x3), .val (.int x4), .val (.int x5), .val (.int R), .val (.int B), .val (.int ((x0 &&& (2147483647 : Int32)) % R)), .val (.int ((x1 &&& (2147483647 : Int32)) % B)), .val (.ref b17), .val (.long ((R.toInt64) - (1 : Int64))), .second, .val (.long ((B.toInt64) - (1 : Int64))), .second, .val (.int (0 : Int32)), .unset] [(.ref b17)])) _
      refine XS.iload X18.here hx rfl (hb hby at_96) rfl ?_
      show Steps p.tables e below (T18.setTop (mkF m 98 #[.val (.int x0), .val (.int x1), .val (.int x2), .val (.int x3), .val (.int x4), .val (.int x5), .val (.int R), .val (.int B), .val (.int ((x0 &&& (2147483647 : Int32)) % R)), .val (.int ((x1 &&& (2147483647 : Int32)) % B)), .val (.ref b17), .val (.long ((R.toInt64) - (1 : Int64))), .second, .val (.long ((B.toInt64) - (1 : Int64))), .second, .val (.int (0 : Int32)), .unset] [(.int x4), (.ref b17)])) _
      refine XS.iload X18.here hx rfl (hb hby at_98) rfl ?_
      show Steps p.tables e below (T18.setTop (mkF m 100 #[.val (.int x0), .val (.int x1), .val (.int x2), .val (.int x3), .val (.int x4), .val (.int x5), .val (.int R), .val (.int B), .val (.int ((x0 &&& (2147483647 : Int32)) % R)), .val (.int ((x1 &&& (2147483647 : Int32)) % B)), .val (.ref b17), .val (.long ((R.toInt64) - (1 : Int64))), .second, .val (.long ((B.toInt64) - (1 : Int64))), .second, .val (.int (0 : Int32)), .unset] [(.int x5), (.int x4), (.ref b17)])) _
      refine st33.trans ?_
      show Steps p.tables e below (T33.setTop (mkF m 103 #[.val (.int x0), .val (.int x1), .val (.int x2), .val (.int x3), .val (.int x4), .val (.int x5), .val (.int R), .val (.int B), .val (.int ((x0 &&& (2147483647 : Int32)) % R)), .val (.int ((x1 &&& (2147483647 : Int32)) % B)), .val (.ref b17), .val (.long ((R.toInt64) - (1 : Int64))), .second, .val (.long ((B.toInt64) - (1 : Int64))), .second, .val (.int (0 : Int32)), .unset] [(.int (0 : Int32))])) _
      refine XS.iload X33.here hx rfl (hb hby at_103) rfl ?_
      show Steps p.tables e below (T33.setTop (mkF m 105 #[.val (.int x0), .val (.int x1), .val (.int x2), .val (.int x3), .val (.int x4), .val (.int x5), .val (.int R), .val (.int B), .val (.int ((x0 &&& (2147483647 : Int32)) % R)), .val (.int ((x1 &&& (2147483647 : Int32)) % B)), .val (.ref b17), .val (.long ((R.toInt64) - (1 : Int64))), .second, .val (.long ((B.toInt64) - (1 : Int64))), .second, .val (.int (0 : Int32)), .unset] [(.int (0 : Int32)), (.int (0 : Int32))])) _
      refine XS.icmpNo X33.here hx rfl (hb hby at_105) rfl (teq (by decide : (0 : Int32) = (0 : Int32))).2 ?_
      show Steps p.tables e below (T33.setTop (mkF m 108 #[.val (.int x0), .val (.int x1), .val (.int x2), .val (.int x3), .val (.int x4), .val (.int x5), .val (.int R), .val (.int B), .val (.int ((x0 &&& (2147483647 : Int32)) % R)), .val (.int ((x1 &&& (2147483647 : Int32)) % B)), .val (.ref b17), .val (.long ((R.toInt64) - (1 : Int64))), .second, .val (.long ((B.toInt64) - (1 : Int64))), .second, .val (.int (0 : Int32)), .unset] [])) _
      refine XS.iconst X33.here hx rfl (hb hby at_108) ?_
      show Steps p.tables e below (T33.setTop (mkF m 109 #[.val (.int x0), .val (.int x1), .val (.int x2), .val (.int x3), .val (.int x4), .val (.int x5), .val (.int R), .val (.int B), .val (.int ((x0 &&& (2147483647 : Int32)) % R)), .val (.int ((x1 &&& (2147483647 : Int32)) % B)), .val (.ref b17), .val (.long ((R.toInt64) - (1 : Int64))), .second, .val (.long ((B.toInt64) - (1 : Int64))), .second, .val (.int (0 : Int32)), .unset] [(.int (1 : Int32))])) _
      refine XS.goto X33.here hx rfl (pc0 := 109) (pc' := 113) rfl (hb hby at_109) (by decide) (by decide) ?_
      show Steps p.tables e below (T33.setTop (mkF m 113 #[.val (.int x0), .val (.int x1), .val (.int x2), .val (.int x3), .val (.int x4), .val (.int x5), .val (.int R), .val (.int B), .val (.int ((x0 &&& (2147483647 : Int32)) % R)), .val (.int ((x1 &&& (2147483647 : Int32)) % B)), .val (.ref b17), .val (.long ((R.toInt64) - (1 : Int64))), .second, .val (.long ((B.toInt64) - (1 : Int64))), .second, .val (.int (0 : Int32)), .unset] [(.int (1 : Int32))])) _
      refine XS.istore X33.here hx rfl (hb hby at_113) rfl (l' := #[.val (.int x0), .val (.int x1), .val (.int x2), .val (.int x3), .val (.int x4), .val (.int x5), .val (.int R), .val (.int B), .val (.int ((x0 &&& (2147483647 : Int32)) % R)), .val (.int ((x1 &&& (2147483647 : Int32)) % B)), .val (.ref b17), .val (.long ((R.toInt64) - (1 : Int64))), .second, .val (.long ((B.toInt64) - (1 : Int64))), .second, .val (.int (0 : Int32)), .val (.int (1 : Int32))]) rfl ?_
      show Steps p.tables e below (T33.setTop (mkF m 115 #[.val (.int x0), .val (.int x1), .val (.int x2), .val (.int x3), .val (.int x4), .val (.int x5), .val (.int R), .val (.int B), .val (.int ((x0 &&& (2147483647 : Int32)) % R)), .val (.int ((x1 &&& (2147483647 : Int32)) % B)), .val (.ref b17), .val (.long ((R.toInt64) - (1 : Int64))), .second, .val (.long ((B.toInt64) - (1 : Int64))), .second, .val (.int (0 : Int32)), .val (.int (1 : Int32))] [])) _
      refine XS.iload X33.here hx rfl (hb hby at_115) rfl ?_
      show Steps p.tables e below (T33.setTop (mkF m 117 #[.val (.int x0), .val (.int x1), .val (.int x2), .val (.int x3), .val (.int x4), .val (.int x5), .val (.int R), .val (.int B), .val (.int ((x0 &&& (2147483647 : Int32)) % R)), .val (.int ((x1 &&& (2147483647 : Int32)) % B)), .val (.ref b17), .val (.long ((R.toInt64) - (1 : Int64))), .second, .val (.long ((B.toInt64) - (1 : Int64))), .second, .val (.int (0 : Int32)), .val (.int (1 : Int32))] [(.int (1 : Int32))])) _
      refine XS.ifNo X33.here hx rfl (hb hby at_117) rfl ((if0 _ _).trans (feq (by decide : ¬ ((1 : Int32) = (0 : Int32)))).1) ?_
      show Steps p.tables e below (T33.setTop (mkF m 120 #[.val (.int x0), .val (.int x1), .val (.int x2), .val (.int x3), .val (.int x4), .val (.int x5), .val (.int R), .val (.int B), .val (.int ((x0 &&& (2147483647 : Int32)) % R)), .val (.int ((x1 &&& (2147483647 : Int32)) % B)), .val (.ref b17), .val (.long ((R.toInt64) - (1 : Int64))), .second, .val (.long ((B.toInt64) - (1 : Int64))), .second, .val (.int (0 : Int32)), .val (.int (1 : Int32))] [])) _
      refine XS.aload X33.here hx rfl (hb hby at_120) rfl rfl ?_
      show Steps p.tables e below (T33.setTop (mkF m 122 #[.val (.int x0), .val (.int x1), .val (.int x2), .val (.int x3), .val (.int x4), .val (.int x5), .val (.int R), .val (.int B), .val (.int ((x0 &&& (2147483647 : Int32)) % R)), .val (.int ((x1 &&& (2147483647 : Int32)) % B)), .val (.ref b17), .val (.long ((R.toInt64) - (1 : Int64))), .second, .val (.long ((B.toInt64) - (1 : Int64))), .second, .val (.int (0 : Int32)), .val (.int (1 : Int32))] [(.ref b17)])) _
      refine XS.iload X33.here hx rfl (hb hby at_122) rfl ?_
      show Steps p.tables e below (T33.setTop (mkF m 124 #[.val (.int x0), .val (.int x1), .val (.int x2), .val (.int x3), .val (.int x4), .val (.int x5), .val (.int R), .val (.int B), .val (.int ((x0 &&& (2147483647 : Int32)) % R)), .val (.int ((x1 &&& (2147483647 : Int32)) % B)), .val (.ref b17), .val (.long ((R.toInt64) - (1 : Int64))), .second, .val (.long ((B.toInt64) - (1 : Int64))), .second, .val (.int (0 : Int32)), .val (.int (1 : Int32))] [(.int R), (.ref b17)])) _
      refine XS.iload X33.here hx rfl (hb hby at_124) rfl ?_
      show Steps p.tables e below (T33.setTop (mkF m 126 #[.val (.int x0), .val (.int x1), .val (.int x2), .val (.int x3), .val (.int x4), .val (.int x5), .val (.int R), .val (.int B), .val (.int ((x0 &&& (2147483647 : Int32)) % R)), .val (.int ((x1 &&& (2147483647 : Int32)) % B)), .val (.ref b17), .val (.long ((R.toInt64) - (1 : Int64))), .second, .val (.long ((B.toInt64) - (1 : Int64))), .second, .val (.int (0 : Int32)), .val (.int (1 : Int32))] [(.int B), (.int R), (.ref b17)])) _
      refine st34.trans ?_
      show Steps p.tables e below (T34.setTop (mkF m 129 #[.val (.int x0), .val (.int x1), .val (.int x2), .val (.int x3), .val (.int x4), .val (.int x5), .val (.int R), .val (.int B), .val (.int ((x0 &&& (2147483647 : Int32)) % R)), .val (.int ((x1 &&& (2147483647 : Int32)) % B)), .val (.ref b17), .val (.long ((R.toInt64) - (1 : Int64))), .second, .val (.long ((B.toInt64) - (1 : Int64))), .second, .val (.int (0 : Int32)), .val (.int (1 : Int32))] [(.int (1 : Int32))])) _
      refine XS.ifNo X34.here hx rfl (hb hby at_129) rfl ((if0 _ _).trans (feq (by decide : ¬ ((1 : Int32) = (0 : Int32)))).1) ?_
      show Steps p.tables e below (T34.setTop (mkF m 132 #[.val (.int x0), .val (.int x1), .val (.int x2), .val (.int x3), .val (.int x4), .val (.int x5), .val (.int R), .val (.int B), .val (.int ((x0 &&& (2147483647 : Int32)) % R)), .val (.int ((x1 &&& (2147483647 : Int32)) % B)), .val (.ref b17), .val (.long ((R.toInt64) - (1 : Int64))), .second, .val (.long ((B.toInt64) - (1 : Int64))), .second, .val (.int (0 : Int32)), .val (.int (1 : Int32))] [])) _
      refine XS.iconst X34.here hx rfl (hb hby at_132) ?_
      show Steps p.tables e below (T34.setTop (mkF m 133 #[.val (.int x0), .val (.int x1), .val (.int x2), .val (.int x3), .val (.int x4), .val (.int x5), .val (.int R), .val (.int B), .val (.int ((x0 &&& (2147483647 : Int32)) % R)), .val (.int ((x1 &&& (2147483647 : Int32)) % B)), .val (.ref b17), .val (.long ((R.toInt64) - (1 : Int64))), .second, .val (.long ((B.toInt64) - (1 : Int64))), .second, .val (.int (0 : Int32)), .val (.int (1 : Int32))] [(.int (1 : Int32))])) _
      refine XS.goto X34.here hx rfl (pc0 := 133) (pc' := 137) rfl (hb hby at_133) (by decide) (by decide) ?_
      show Steps p.tables e below (T34.setTop (mkF m 137 #[.val (.int x0), .val (.int x1), .val (.int x2), .val (.int x3), .val (.int x4), .val (.int x5), .val (.int R), .val (.int B), .val (.int ((x0 &&& (2147483647 : Int32)) % R)), .val (.int ((x1 &&& (2147483647 : Int32)) % B)), .val (.ref b17), .val (.long ((R.toInt64) - (1 : Int64))), .second, .val (.long ((B.toInt64) - (1 : Int64))), .second, .val (.int (0 : Int32)), .val (.int (1 : Int32))] [(.int (1 : Int32))])) _
      refine XS.istore X34.here hx rfl (hb hby at_137) rfl (l' := #[.val (.int x0), .val (.int x1), .val (.int x2), .val (.int x3), .val (.int x4), .val (.int x5), .val (.int R), .val (.int B), .val (.int ((x0 &&& (2147483647 : Int32)) % R)), .val (.int ((x1 &&& (2147483647 : Int32)) % B)), .val (.ref b17), .val (.long ((R.toInt64) - (1 : Int64))), .second, .val (.long ((B.toInt64) - (1 : Int64))), .second, .val (.int (0 : Int32)), .val (.int (1 : Int32))]) rfl ?_
      show Steps p.tables e below (T34.setTop (mkF m 139 #[.val (.int x0), .val (.int x1), .val (.int x2), .val (.int x3), .val (.int x4), .val (.int x5), .val (.int R), .val (.int B), .val (.int ((x0 &&& (2147483647 : Int32)) % R)), .val (.int ((x1 &&& (2147483647 : Int32)) % B)), .val (.ref b17), .val (.long ((R.toInt64) - (1 : Int64))), .second, .val (.long ((B.toInt64) - (1 : Int64))), .second, .val (.int (0 : Int32)), .val (.int (1 : Int32))] [])) _
      refine XS.iload X34.here hx rfl (hb hby at_139) rfl ?_
      show Steps p.tables e below (T34.setTop (mkF m 141 #[.val (.int x0), .val (.int x1), .val (.int x2), .val (.int x3), .val (.int x4), .val (.int x5), .val (.int R), .val (.int B), .val (.int ((x0 &&& (2147483647 : Int32)) % R)), .val (.int ((x1 &&& (2147483647 : Int32)) % B)), .val (.ref b17), .val (.long ((R.toInt64) - (1 : Int64))), .second, .val (.long ((B.toInt64) - (1 : Int64))), .second, .val (.int (0 : Int32)), .val (.int (1 : Int32))] [(.int (1 : Int32))])) _
      refine XS.ifNo X34.here hx rfl (hb hby at_141) rfl ((if0 _ _).trans (feq (by decide : ¬ ((1 : Int32) = (0 : Int32)))).1) ?_
      show Steps p.tables e below (T34.setTop (mkF m 144 #[.val (.int x0), .val (.int x1), .val (.int x2), .val (.int x3), .val (.int x4), .val (.int x5), .val (.int R), .val (.int B), .val (.int ((x0 &&& (2147483647 : Int32)) % R)), .val (.int ((x1 &&& (2147483647 : Int32)) % B)), .val (.ref b17), .val (.long ((R.toInt64) - (1 : Int64))), .second, .val (.long ((B.toInt64) - (1 : Int64))), .second, .val (.int (0 : Int32)), .val (.int (1 : Int32))] [])) _
      refine XS.aload X34.here hx rfl (hb hby at_144) rfl rfl ?_
      show Steps p.tables e below (T34.setTop (mkF m 146 #[.val (.int x0), .val (.int x1), .val (.int x2), .val (.int x3), .val (.int x4), .val (.int x5), .val (.int R), .val (.int B), .val (.int ((x0 &&& (2147483647 : Int32)) % R)), .val (.int ((x1 &&& (2147483647 : Int32)) % B)), .val (.ref b17), .val (.long ((R.toInt64) - (1 : Int64))), .second, .val (.long ((B.toInt64) - (1 : Int64))), .second, .val (.int (0 : Int32)), .val (.int (1 : Int32))] [(.ref b17)])) _
      refine XS.iload X34.here hx rfl (hb hby at_146) rfl ?_
      show Steps p.tables e below (T34.setTop (mkF m 148 #[.val (.int x0), .val (.int x1), .val (.int x2), .val (.int x3), .val (.int x4), .val (.int x5), .val (.int R), .val (.int B), .val (.int ((x0 &&& (2147483647 : Int32)) % R)), .val (.int ((x1 &&& (2147483647 : Int32)) % B)), .val (.ref b17), .val (.long ((R.toInt64) - (1 : Int64))), .second, .val (.long ((B.toInt64) - (1 : Int64))), .second, .val (.int (0 : Int32)), .val (.int (1 : Int32))] [(.int R), (.ref b17)])) _
      refine XS.iconst X34.here hx rfl (hb hby at_148) ?_
      show Steps p.tables e below (T34.setTop (mkF m 149 #[.val (.int x0), .val (.int x1), .val (.int x2), .val (.int x3), .val (.int x4), .val (.int x5), .val (.int R), .val (.int B), .val (.int ((x0 &&& (2147483647 : Int32)) % R)), .val (.int ((x1 &&& (2147483647 : Int32)) % B)), .val (.ref b17), .val (.long ((R.toInt64) - (1 : Int64))), .second, .val (.long ((B.toInt64) - (1 : Int64))), .second, .val (.int (0 : Int32)), .val (.int (1 : Int32))] [(.int (1 : Int32)), (.int R), (.ref b17)])) _
      refine XS.isub X34.here hx rfl (hb hby at_149) rfl ?_
      show Steps p.tables e below (T34.setTop (mkF m 150 #[.val (.int x0), .val (.int x1), .val (.int x2), .val (.int x3), .val (.int x4), .val (.int x5), .val (.int R), .val (.int B), .val (.int ((x0 &&& (2147483647 : Int32)) % R)), .val (.int ((x1 &&& (2147483647 : Int32)) % B)), .val (.ref b17), .val (.long ((R.toInt64) - (1 : Int64))), .second, .val (.long ((B.toInt64) - (1 : Int64))), .second, .val (.int (0 : Int32)), .val (.int (1 : Int32))] [(.int (R - (1 : Int32))), (.ref b17)])) _
      refine XS.iload X34.here hx rfl (hb hby at_150) rfl ?_
      show Steps p.tables e below (T34.setTop (mkF m 152 #[.val (.int x0), .val (.int x1), .val (.int x2), .val (.int x3), .val (.int x4), .val (.int x5), .val (.int R), .val (.int B), .val (.int ((x0 &&& (2147483647 : Int32)) % R)), .val (.int ((x1 &&& (2147483647 : Int32)) % B)), .val (.ref b17), .val (.long ((R.toInt64) - (1 : Int64))), .second, .val (.long ((B.toInt64) - (1 : Int64))), .second, .val (.int (0 : Int32)), .val (.int (1 : Int32))] [(.int B), (.int (R - (1 : Int32))), (.ref b17)])) _
      refine st35.trans ?_
      show Steps p.tables e below (T35.setTop (mkF m 155 #[.val (.int x0), .val (.int x1), .val (.int x2), .val (.int x3), .val (.int x4), .val (.int x5), .val (.int R), .val (.int B), .val (.int ((x0 &&& (2147483647 : Int32)) % R)), .val (.int ((x1 &&& (2147483647 : Int32)) % B)), .val (.ref b17), .val (.long ((R.toInt64) - (1 : Int64))), .second, .val (.long ((B.toInt64) - (1 : Int64))), .second, .val (.int (0 : Int32)), .val (.int (1 : Int32))] [(.int (0 : Int32))])) _
      refine XS.ifNo X35.here hx rfl (hb hby at_155) rfl ((if0 _ _).trans (teq (by decide : (0 : Int32) = (0 : Int32))).2) ?_
      show Steps p.tables e below (T35.setTop (mkF m 158 #[.val (.int x0), .val (.int x1), .val (.int x2), .val (.int x3), .val (.int x4), .val (.int x5), .val (.int R), .val (.int B), .val (.int ((x0 &&& (2147483647 : Int32)) % R)), .val (.int ((x1 &&& (2147483647 : Int32)) % B)), .val (.ref b17), .val (.long ((R.toInt64) - (1 : Int64))), .second, .val (.long ((B.toInt64) - (1 : Int64))), .second, .val (.int (0 : Int32)), .val (.int (1 : Int32))] [])) _
      refine XS.iconst X35.here hx rfl (hb hby at_158) ?_
      show Steps p.tables e below (T35.setTop (mkF m 159 #[.val (.int x0), .val (.int x1), .val (.int x2), .val (.int x3), .val (.int x4), .val (.int x5), .val (.int R), .val (.int B), .val (.int ((x0 &&& (2147483647 : Int32)) % R)), .val (.int ((x1 &&& (2147483647 : Int32)) % B)), .val (.ref b17), .val (.long ((R.toInt64) - (1 : Int64))), .second, .val (.long ((B.toInt64) - (1 : Int64))), .second, .val (.int (0 : Int32)), .val (.int (1 : Int32))] [(.int (1 : Int32))])) _
      refine XS.goto X35.here hx rfl (pc0 := 159) (pc' := 163) rfl (hb hby at_159) (by decide) (by decide) ?_
      show Steps p.tables e below (T35.setTop (mkF m 163 #[.val (.int x0), .val (.int x1), .val (.int x2), .val (.int x3), .val (.int x4), .val (.int x5), .val (.int R), .val (.int B), .val (.int ((x0 &&& (2147483647 : Int32)) % R)), .val (.int ((x1 &&& (2147483647 : Int32)) % B)), .val (.ref b17), .val (.long ((R.toInt64) - (1 : Int64))), .second, .val (.long ((B.toInt64) - (1 : Int64))), .second, .val (.int (0 : Int32)), .val (.int (1 : Int32))] [(.int (1 : Int32))])) _
      refine XS.istore X35.here hx rfl (hb hby at_163) rfl (l' := #[.val (.int x0), .val (.int x1), .val (.int x2), .val (.int x3), .val (.int x4), .val (.int x5), .val (.int R), .val (.int B), .val (.int ((x0 &&& (2147483647 : Int32)) % R)), .val (.int ((x1 &&& (2147483647 : Int32)) % B)), .val (.ref b17), .val (.long ((R.toInt64) - (1 : Int64))), .second, .val (.long ((B.toInt64) - (1 : Int64))), .second, .val (.int (0 : Int32)), .val (.int (1 : Int32))]) rfl ?_
      show Steps p.tables e below (T35.setTop (mkF m 165 #[.val (.int x0), .val (.int x1), .val (.int x2), .val (.int x3), .val (.int x4), .val (.int x5), .val (.int R), .val (.int B), .val (.int ((x0 &&& (2147483647 : Int32)) % R)), .val (.int ((x1 &&& (2147483647 : Int32)) % B)), .val (.ref b17), .val (.long ((R.toInt64) - (1 : Int64))), .second, .val (.long ((B.toInt64) - (1 : Int64))), .second, .val (.int (0 : Int32)), .val (.int (1 : Int32))] [])) _
      refine XS.iload X35.here hx rfl (hb hby at_165) rfl ?_
      show Steps p.tables e below (T35.setTop (mkF m 167 #[.val (.int x0), .val (.int x1), .val (.int x2), .val (.int x3), .val (.int x4), .val (.int x5), .val (.int R), .val (.int B), .val (.int ((x0 &&& (2147483647 : Int32)) % R)), .val (.int ((x1 &&& (2147483647 : Int32)) % B)), .val (.ref b17), .val (.long ((R.toInt64) - (1 : Int64))), .second, .val (.long ((B.toInt64) - (1 : Int64))), .second, .val (.int (0 : Int32)), .val (.int (1 : Int32))] [(.int (1 : Int32))])) _
      refine XS.ifNo X35.here hx rfl (hb hby at_167) rfl ((if0 _ _).trans (feq (by decide : ¬ ((1 : Int32) = (0 : Int32)))).1) ?_
      show Steps p.tables e below (T35.setTop (mkF m 170 #[.val (.int x0), .val (.int x1), .val (.int x2), .val (.int x3), .val (.int x4), .val (.int x5), .val (.int R), .val (.int B), .val (.int ((x0 &&& (2147483647 : Int32)) % R)), .val (.int ((x1 &&& (2147483647 : Int32)) % B)), .val (.ref b17), .val (.long ((R.toInt64) - (1 : Int64))), .second, .val (.long ((B.toInt64) - (1 : Int64))), .second, .val (.int (0 : Int32)), .val (.int (1 : Int32))] [])) _
      refine XS.aload X35.here hx rfl (hb hby at_170) rfl rfl ?_
      show Steps p.tables e below (T35.setTop (mkF m 172 #[.val (.int x0), .val (.int x1), .val (.int x2), .val (.int x3), .val (.int x4), .val (.int x5), .val (.int R), .val (.int B), .val (.int ((x0 &&& (2147483647 : Int32)) % R)), .val (.int ((x1 &&& (2147483647 : Int32)) % B)), .val (.ref b17), .val (.long ((R.toInt64) - (1 : Int64))), .second, .val (.long ((B.toInt64) - (1 : Int64))), .second, .val (.int (0 : Int32)), .val (.int (1 : Int32))] [(.ref b17)])) _
      refine XS.iload X35.here hx rfl (hb hby at_172) rfl ?_
      show Steps p.tables e below (T35.setTop (mkF m 174 #[.val (.int x0), .val (.int x1), .val (.int x2), .val (.int x3), .val (.int x4), .val (.int x5), .val (.int R), .val (.int B), .val (.int ((x0 &&& (2147483647 : Int32)) % R)), .val (.int ((x1 &&& (2147483647 : Int32)) % B)), .val (.ref b17), .val (.long ((R.toInt64) - (1 : Int64))), .second, .val (.long ((B.toInt64) - (1 : Int64))), .second, .val (.int (0 : Int32)), .val (.int (1 : Int32))] [(.int R), (.ref b17)])) _
      refine XS.iload X35.here hx rfl (hb hby at_174) rfl ?_
      show Steps p.tables e below (T35.setTop (mkF m 176 #[.val (.int x0), .val (.int x1), .val (.int x2), .val (.int x3), .val (.int x4), .val (.int x5), .val (.int R), .val (.int B), .val (.int ((x0 &&& (2147483647 : Int32)) % R)), .val (.int ((x1 &&& (2147483647 : Int32)) % B)), .val (.ref b17), .val (.long ((R.toInt64) - (1 : Int64))), .second, .val (.long ((B.toInt64) - (1 : Int64))), .second, .val (.int (0 : Int32)), .val (.int (1 : Int32))] [(.int B), (.int R), (.ref b17)])) _
      refine XS.iconst X35.here hx rfl (hb hby at_176) ?_
      show Steps p.tables e below (T35.setTop (mkF m 177 #[.val (.int x0), .val (.int x1), .val (.int x2), .val (.int x3), .val (.int x4), .val (.int x5), .val (.int R), .val (.int B), .val (.int ((x0 &&& (2147483647 : Int32)) % R)), .val (.int ((x1 &&& (2147483647 : Int32)) % B)), .val (.ref b17), .val (.long ((R.toInt64) - (1 : Int64))), .second, .val (.long ((B.toInt64) - (1 : Int64))), .second, .val (.int (0 : Int32)), .val (.int (1 : Int32))] [(.int (1 : Int32)), (.int B), (.int R), (.ref b17)])) _
      refine XS.isub X35.here hx rfl (hb hby at_177) rfl ?_
      show Steps p.tables e below (T35.setTop (mkF m 178 #[.val (.int x0), .val (.int x1), .val (.int x2), .val (.int x3), .val (.int x4), .val (.int x5), .val (.int R), .val (.int B), .val (.int ((x0 &&& (2147483647 : Int32)) % R)), .val (.int ((x1 &&& (2147483647 : Int32)) % B)), .val (.ref b17), .val (.long ((R.toInt64) - (1 : Int64))), .second, .val (.long ((B.toInt64) - (1 : Int64))), .second, .val (.int (0 : Int32)), .val (.int (1 : Int32))] [(.int (B - (1 : Int32))), (.int R), (.ref b17)])) _
      refine st36.trans ?_
      show Steps p.tables e below (T36.setTop (mkF m 181 #[.val (.int x0), .val (.int x1), .val (.int x2), .val (.int x3), .val (.int x4), .val (.int x5), .val (.int R), .val (.int B), .val (.int ((x0 &&& (2147483647 : Int32)) % R)), .val (.int ((x1 &&& (2147483647 : Int32)) % B)), .val (.ref b17), .val (.long ((R.toInt64) - (1 : Int64))), .second, .val (.long ((B.toInt64) - (1 : Int64))), .second, .val (.int (0 : Int32)), .val (.int (1 : Int32))] [(.int (0 : Int32))])) _
      refine XS.ifNo X36.here hx rfl (hb hby at_181) rfl ((if0 _ _).trans (teq (by decide : (0 : Int32) = (0 : Int32))).2) ?_
      show Steps p.tables e below (T36.setTop (mkF m 184 #[.val (.int x0), .val (.int x1), .val (.int x2), .val (.int x3), .val (.int x4), .val (.int x5), .val (.int R), .val (.int B), .val (.int ((x0 &&& (2147483647 : Int32)) % R)), .val (.int ((x1 &&& (2147483647 : Int32)) % B)), .val (.ref b17), .val (.long ((R.toInt64) - (1 : Int64))), .second, .val (.long ((B.toInt64) - (1 : Int64))), .second, .val (.int (0 : Int32)), .val (.int (1 : Int32))] [])) _
      refine XS.iconst X36.here hx rfl (hb hby at_184) ?_
      show Steps p.tables e below (T36.setTop (mkF m 185 #[.val (.int x0), .val (.int x1), .val (.int x2), .val (.int x3), .val (.int x4), .val (.int x5), .val (.int R), .val (.int B), .val (.int ((x0 &&& (2147483647 : Int32)) % R)), .val (.int ((x1 &&& (2147483647 : Int32)) % B)), .val (.ref b17), .val (.long ((R.toInt64) - (1 : Int64))), .second, .val (.long ((B.toInt64) - (1 : Int64))), .second, .val (.int (0 : Int32)), .val (.int (1 : Int32))] [(.int (1 : Int32))])) _
      refine XS.goto X36.here hx rfl (pc0 := 185) (pc' := 189) rfl (hb hby at_185) (by decide) (by decide) ?_
      show Steps p.tables e below (T36.setTop (mkF m 189 #[.val (.int x0), .val (.int x1), .val (.int x2), .val (.int x3), .val (.int x4), .val (.int x5), .val (.int R), .val (.int B), .val (.int ((x0 &&& (2147483647 : Int32)) % R)), .val (.int ((x1 &&& (2147483647 : Int32)) % B)), .val (.ref b17), .val (.long ((R.toInt64) - (1 : Int64))), .second, .val (.long ((B.toInt64) - (1 : Int64))), .second, .val (.int (0 : Int32)), .val (.int (1 : Int32))] [(.int (1 : Int32))])) _
      refine XS.istore X36.here hx rfl (hb hby at_189) rfl (l' := #[.val (.int x0), .val (.int x1), .val (.int x2), .val (.int x3), .val (.int x4), .val (.int x5), .val (.int R), .val (.int B), .val (.int ((x0 &&& (2147483647 : Int32)) % R)), .val (.int ((x1 &&& (2147483647 : Int32)) % B)), .val (.ref b17), .val (.long ((R.toInt64) - (1 : Int64))), .second, .val (.long ((B.toInt64) - (1 : Int64))), .second, .val (.int (0 : Int32)), .val (.int (1 : Int32))]) rfl ?_
      show Steps p.tables e below (T36.setTop (mkF m 191 #[.val (.int x0), .val (.int x1), .val (.int x2), .val (.int x3), .val (.int x4), .val (.int x5), .val (.int R), .val (.int B), .val (.int ((x0 &&& (2147483647 : Int32)) % R)), .val (.int ((x1 &&& (2147483647 : Int32)) % B)), .val (.ref b17), .val (.long ((R.toInt64) - (1 : Int64))), .second, .val (.long ((B.toInt64) - (1 : Int64))), .second, .val (.int (0 : Int32)), .val (.int (1 : Int32))] [])) _
      refine XS.iload X36.here hx rfl (hb hby at_191) rfl ?_
      show Steps p.tables e below (T36.setTop (mkF m 193 #[.val (.int x0), .val (.int x1), .val (.int x2), .val (.int x3), .val (.int x4), .val (.int x5), .val (.int R), .val (.int B), .val (.int ((x0 &&& (2147483647 : Int32)) % R)), .val (.int ((x1 &&& (2147483647 : Int32)) % B)), .val (.ref b17), .val (.long ((R.toInt64) - (1 : Int64))), .second, .val (.long ((B.toInt64) - (1 : Int64))), .second, .val (.int (0 : Int32)), .val (.int (1 : Int32))] [(.int (1 : Int32))])) _
      refine XS.ifNo X36.here hx rfl (hb hby at_193) rfl ((if0 _ _).trans (feq (by decide : ¬ ((1 : Int32) = (0 : Int32)))).1) ?_
      show Steps p.tables e below (T36.setTop (mkF m 196 #[.val (.int x0), .val (.int x1), .val (.int x2), .val (.int x3), .val (.int x4), .val (.int x5), .val (.int R), .val (.int B), .val (.int ((x0 &&& (2147483647 : Int32)) % R)), .val (.int ((x1 &&& (2147483647 : Int32)) % B)), .val (.ref b17), .val (.long ((R.toInt64) - (1 : Int64))), .second, .val (.long ((B.toInt64) - (1 : Int64))), .second, .val (.int (0 : Int32)), .val (.int (1 : Int32))] [])) _
      refine XS.aload X36.here hx rfl (hb hby at_196) rfl rfl ?_
      show Steps p.tables e below (T36.setTop (mkF m 198 #[.val (.int x0), .val (.int x1), .val (.int x2), .val (.int x3), .val (.int x4), .val (.int x5), .val (.int R), .val (.int B), .val (.int ((x0 &&& (2147483647 : Int32)) % R)), .val (.int ((x1 &&& (2147483647 : Int32)) % B)), .val (.ref b17), .val (.long ((R.toInt64) - (1 : Int64))), .second, .val (.long ((B.toInt64) - (1 : Int64))), .second, .val (.int (0 : Int32)), .val (.int (1 : Int32))] [(.ref b17)])) _
      refine X36.ldcInt hx hown (mvT hZ (hw _ (List.mem_of_getElem? (i := 0) rfl))) (g := (mkF m 198 #[.val (.int x0), .val (.int x1), .val (.int x2), .val (.int x3), .val (.int x4), .val (.int x5), .val (.int R), .val (.int B), .val (.int ((x0 &&& (2147483647 : Int32)) % R)), .val (.int ((x1 &&& (2147483647 : Int32)) % B)), .val (.ref b17), .val (.long ((R.toInt64) - (1 : Int64))), .second, .val (.long ((B.toInt64) - (1 : Int64))), .second, .val (.int (0 : Int32)), .val (.int (1 : Int32))] [(.ref b17)])) rfl (hb hby at_198) _ ?_
      show Steps p.tables e below (T36.setTop (mkF m 200 #[.val (.int x0), .val (.int x1), .val (.int x2), .val (.int x3), .val (.int x4), .val (.int x5), .val (.int R), .val (.int B), .val (.int ((x0 &&& (2147483647 : Int32)) % R)), .val (.int ((x1 &&& (2147483647 : Int32)) % B)), .val (.ref b17), .val (.long ((R.toInt64) - (1 : Int64))), .second, .val (.long ((B.toInt64) - (1 : Int64))), .second, .val (.int (0 : Int32)), .val (.int (1 : Int32))] [(.int (2147483647 : Int32)), (.ref b17)])) _
      refine X36.ldcInt hx hown (mvT hZ (hw _ (List.mem_of_getElem? (i := 0) rfl))) (g := (mkF m 200 #[.val (.int x0), .val (.int x1), .val (.int x2), .val (.int x3), .val (.int x4), .val (.int x5), .val (.int R), .val (.int B), .val (.int ((x0 &&& (2147483647 : Int32)) % R)), .val (.int ((x1 &&& (2147483647 : Int32)) % B)), .val (.ref b17), .val (.long ((R.toInt64) - (1 : Int64))), .second, .val (.long ((B.toInt64) - (1 : Int64))), .second, .val (.int (0 : Int32)), .val (.int (1 : Int32))] [(.int (2147483647 : Int32)), (.ref b17)])) rfl (hb hby at_200) _ ?_
      show Steps p.tables e below (T36.setTop (mkF m 202 #[.val (.int x0), .val (.int x1), .val (.int x2), .val (.int x3), .val (.int x4), .val (.int x5), .val (.int R), .val (.int B), .val (.int ((x0 &&& (2147483647 : Int32)) % R)), .val (.int ((x1 &&& (2147483647 : Int32)) % B)), .val (.ref b17), .val (.long ((R.toInt64) - (1 : Int64))), .second, .val (.long ((B.toInt64) - (1 : Int64))), .second, .val (.int (0 : Int32)), .val (.int (1 : Int32))] [(.int (2147483647 : Int32)), (.int (2147483647 : Int32)), (.ref b17)])) _
      refine st37.trans ?_
      show Steps p.tables e below (T37.setTop (mkF m 205 #[.val (.int x0), .val (.int x1), .val (.int x2), .val (.int x3), .val (.int x4), .val (.int x5), .val (.int R), .val (.int B), .val (.int ((x0 &&& (2147483647 : Int32)) % R)), .val (.int ((x1 &&& (2147483647 : Int32)) % B)), .val (.ref b17), .val (.long ((R.toInt64) - (1 : Int64))), .second, .val (.long ((B.toInt64) - (1 : Int64))), .second, .val (.int (0 : Int32)), .val (.int (1 : Int32))] [(.int (1 : Int32))])) _
      refine XS.ifNo X37.here hx rfl (hb hby at_205) rfl ((if0 _ _).trans (feq (by decide : ¬ ((1 : Int32) = (0 : Int32)))).1) ?_
      show Steps p.tables e below (T37.setTop (mkF m 208 #[.val (.int x0), .val (.int x1), .val (.int x2), .val (.int x3), .val (.int x4), .val (.int x5), .val (.int R), .val (.int B), .val (.int ((x0 &&& (2147483647 : Int32)) % R)), .val (.int ((x1 &&& (2147483647 : Int32)) % B)), .val (.ref b17), .val (.long ((R.toInt64) - (1 : Int64))), .second, .val (.long ((B.toInt64) - (1 : Int64))), .second, .val (.int (0 : Int32)), .val (.int (1 : Int32))] [])) _
      refine XS.iconst X37.here hx rfl (hb hby at_208) ?_
      show Steps p.tables e below (T37.setTop (mkF m 209 #[.val (.int x0), .val (.int x1), .val (.int x2), .val (.int x3), .val (.int x4), .val (.int x5), .val (.int R), .val (.int B), .val (.int ((x0 &&& (2147483647 : Int32)) % R)), .val (.int ((x1 &&& (2147483647 : Int32)) % B)), .val (.ref b17), .val (.long ((R.toInt64) - (1 : Int64))), .second, .val (.long ((B.toInt64) - (1 : Int64))), .second, .val (.int (0 : Int32)), .val (.int (1 : Int32))] [(.int (1 : Int32))])) _
      refine XS.goto X37.here hx rfl (pc0 := 209) (pc' := 213) rfl (hb hby at_209) (by decide) (by decide) ?_
      show Steps p.tables e below (T37.setTop (mkF m 213 #[.val (.int x0), .val (.int x1), .val (.int x2), .val (.int x3), .val (.int x4), .val (.int x5), .val (.int R), .val (.int B), .val (.int ((x0 &&& (2147483647 : Int32)) % R)), .val (.int ((x1 &&& (2147483647 : Int32)) % B)), .val (.ref b17), .val (.long ((R.toInt64) - (1 : Int64))), .second, .val (.long ((B.toInt64) - (1 : Int64))), .second, .val (.int (0 : Int32)), .val (.int (1 : Int32))] [(.int (1 : Int32))])) _
      refine XS.istore X37.here hx rfl (hb hby at_213) rfl (l' := #[.val (.int x0), .val (.int x1), .val (.int x2), .val (.int x3), .val (.int x4), .val (.int x5), .val (.int R), .val (.int B), .val (.int ((x0 &&& (2147483647 : Int32)) % R)), .val (.int ((x1 &&& (2147483647 : Int32)) % B)), .val (.ref b17), .val (.long ((R.toInt64) - (1 : Int64))), .second, .val (.long ((B.toInt64) - (1 : Int64))), .second, .val (.int (0 : Int32)), .val (.int (1 : Int32))]) rfl ?_
      show Steps p.tables e below (T37.setTop (mkF m 215 #[.val (.int x0), .val (.int x1), .val (.int x2), .val (.int x3), .val (.int x4), .val (.int x5), .val (.int R), .val (.int B), .val (.int ((x0 &&& (2147483647 : Int32)) % R)), .val (.int ((x1 &&& (2147483647 : Int32)) % B)), .val (.ref b17), .val (.long ((R.toInt64) - (1 : Int64))), .second, .val (.long ((B.toInt64) - (1 : Int64))), .second, .val (.int (0 : Int32)), .val (.int (1 : Int32))] [])) _
      refine XS.iload X37.here hx rfl (hb hby at_215) rfl ?_
      show Steps p.tables e below (T37.setTop (mkF m 217 #[.val (.int x0), .val (.int x1), .val (.int x2), .val (.int x3), .val (.int x4), .val (.int x5), .val (.int R), .val (.int B), .val (.int ((x0 &&& (2147483647 : Int32)) % R)), .val (.int ((x1 &&& (2147483647 : Int32)) % B)), .val (.ref b17), .val (.long ((R.toInt64) - (1 : Int64))), .second, .val (.long ((B.toInt64) - (1 : Int64))), .second, .val (.int (0 : Int32)), .val (.int (1 : Int32))] [(.int (1 : Int32))])) _
      exact retN X37 hx (t := .boolean) Bd.returns (by simp) (hb hby at_217) hr
    · show Q_0 Z x0 x1 x2 x3 x4 x5 R B h0 n0 _ T37.heap _
      rw [e37q]
      exact ⟨rfl, N37⟩
set_option maxRecDepth 65536 in
set_option maxHeartbeats 40000000 in
theorem comes_1 {Post : Tables → Env → Array Value → State → Outcome → State → Prop} (hpost : ∀ tb e args s v u, (limb_1_1.after args s (.returned v) u = true ∧ limb_1_2.after args s (.returned v) u = true ∧ True) → FrameEnd s (.returned v) u (Jvm.fieldLocs frame_1_writes args s ++ Jvm.arrayLocs frame_1_arrays args s ++ Jvm.staticLocs frame_1_statics s) 16 128 → Post tb e args s (.returned v) u) :
    ArmFor flags0 classFile x code maxLocals ret World_1 tables_1 room_1 Calls_1 rest_1 Pre_1 Post := by
  intro l hfl _ _ p e ha hc hk s m args below hf hA hF happ hP
  obtain ⟨hcalls, hrest, hpre⟩ := hP
  obtain ⟨-, -, -, hnamed, -, -, -, hat⟩ := (Spec.applies_iff hf).mp happ
  obtain ⟨hg, hn⟩ := and_e (Cond.before_iff.mp (show (Jvm.Cond.and given_1 narrow_1).before args s = true from hpre))
  obtain ⟨g38, g39⟩ := and_e hg
  obtain ⟨g40, g41⟩ := and_e g39
  obtain ⟨g42, g43⟩ := and_e g41
  obtain ⟨g44, g45⟩ := and_e g43
  obtain ⟨g46, g47⟩ := and_e g45
  obtain ⟨g48, g49⟩ := and_e g47
  obtain ⟨w0, w1, w2, w3, w4, w5, rfl⟩ : ∃ w0 w1 w2 w3 w4 w5 : Value, args = #[w0, w1, w2, w3, w4, w5] := by
    have hs : args.size = 6 := by simpa [Cond.value, given_1] using g38
    obtain ⟨L⟩ := args
    match L, hs with
    | [w0, w1, w2, w3, w4, w5], _ => exact ⟨w0, w1, w2, w3, w4, w5, rfl⟩
  have hw := fun d (hd : d ∈ tables_1) => atoms_spec (ws := Jvm.Cond.code x code maxLocals ret :: tables_1) hat d (List.mem_cons_of_mem _ hd)
  have hfit : Fit s := fun {y c} hc i hi => by
    obtain ⟨ha, rfl⟩ := Array.getElem?_eq_some_iff.mp hc
    have q := List.all_eq_true.mp ((Array.all_eq_true_iff_forall_mem.mp hF) _ (Array.getElem_mem ha)) i (List.mem_range.mpr hi)
    simpa [Array.getElem?_eq_getElem hi] using q
  obtain ⟨x0, ei0⟩ := is_v g40
  obtain rfl : w0 = (.int x0) := Option.some.inj ei0
  obtain ⟨x1, ei1⟩ := is_v g42
  obtain rfl : w1 = (.int x1) := Option.some.inj ei1
  obtain ⟨x2, ei2⟩ := is_v g44
  obtain rfl : w2 = (.int x2) := Option.some.inj ei2
  obtain ⟨x3, ei3⟩ := is_v g46
  obtain rfl : w3 = (.int x3) := Option.some.inj ei3
  obtain ⟨x4, ei4⟩ := is_v g48
  obtain rfl : w4 = (.int x4) := Option.some.inj ei4
  obtain ⟨x5, ei5⟩ := is_v g49
  obtain rfl : w5 = (.int x5) := Option.some.inj ei5
  obtain ⟨n, o, h1, h2, h3, _, L, rfl, ⟨rfl, N⟩, hq⟩ := rm_0 l s _ hw tables_1 x0 x1 x2 x3 x4 x5 _ _ s.heap s.heap.size (Nat.le_refl _) rfl rfl (own_pos x2) (own_pos x3) p e ha hc hk s m _ below hf ((Spec.applies_iff_loose hf).mp happ).1 ⟨rfl, State.Warmed39.refl s, rfl⟩ trivial
  refine ⟨n, _, h1, h2, h3, hpost _ _ _ _ _ _ ⟨Cond.after_iff.mpr rfl, Cond.after_iff.mpr (eq_i res_at (Term.int_eval (1)) rfl), trivial⟩ ⟨hq.1, hq.2.1, (hq.2.2.sift fun y hy => Or.inr (N y hy)).mono (by decide) (by decide)⟩⟩
theorem main_1_1 : Claimed_1_1 := comes_1 fun _ _ _ _ _ _ h hF => ⟨h.1, hF⟩
theorem main_1_2 : Claimed_1_2 := comes_1 fun _ _ _ _ _ _ h hF => ⟨h.2.1, hF⟩
end Jvm.Pilot.@@N@@
namespace Jvm.Pilot.@@N@@
open Jvm Jvm.ClassFile Sem Op Lib Jvm.Free Jvm.Stand Jvm.Pilot.@@N@@.Jvm.D
/-! MADE BY PROGRAM (witnessworld.py) out of the Statement's table words and the real class files: 11 classes; the members and pool entries that the words name. The judged class is class 1, her method 1. -/
namespace start1
open Jvm.ClassFile
def u (s : String) : CpInfo := .utf8 (stringToUtf16 s)
/-- a pool by its gaps: so many unusable entries, then the entry; so many at the end -/
def gap : Nat → List CpInfo → List CpInfo
  | 0, r => r
  | n + 1, r => .unusable :: gap n r
def poolList (es : List (Nat × CpInfo)) (last : Nat) : List CpInfo := es.foldr (fun e r => gap e.1 (e.2 :: r)) (gap last [])
def pool (es : List (Nat × CpInfo)) (last : Nat) : Array CpInfo := ⟨poolList es last⟩
def fileOf (pool : Array CpInfo) (this : Nat) (attrs : Array Attribute := #[]) (ms : Array MethodInfo := #[]) (fl : Nat := 33) (sup : Nat := 0) (ifs : Array Nat := #[]) (fds : Array FieldInfo := #[]) : ClassFile where
  minorVersion := 0
  majorVersion := 65
  constantPool := pool
  accessFlags := fl
  thisClass := this
  superClass := sup
  interfaces := ifs
  fields := fds
  methods := ms
  attributes := attrs
def plain (name : String) (sup : Option ClassId) : Class where
  name := name
  kind := .ordinary
  loader := none
  accessFlags := 33
  super := sup
  interfaces := #[]
  cf := none
  fields := #[]
  methods := #[]
  instanceTypes := #[]
  staticTypes := #[]
  resolved := #[]
  callSites := []
  init := .initialized
  statics := none
  mirror := none

def pool0 : Array CpInfo := pool [(5, u "<init>"), (0, u "()V"), (1, .class_ 10), (1, u "java/lang/Object")] 113

def k0c0 : Code := { maxStack := 0, maxLocals := 1, code := object_method_1_code, exceptionTable := #[], attributes := #[] }
def k0m0 : Method := { name := "<init>", desc := "()V", sig := { parameters := [], returnType := none }, accessFlags := 1, code := some k0c0 }
/-- java/lang/Object -/
def k0 : Class := { plain "java/lang/Object" none with
  accessFlags := 33
  interfaces := #[]
  cf := some (fileOf pool0 8 #[] #[{ accessFlags := 1, nameIndex := 5, descriptorIndex := 6, attributes := #[] }] 33 0 #[] #[])
  fields := #[]
  methods := #[k0m0]
  instanceTypes := #[]
  staticTypes := #[]
  resolved := Array.replicate 124 none
  statics := none }

def pool1 : Array CpInfo := pool [(2, .class_ 4), (1, u "java/lang/Object"), (0, u "<init>"), (0, u "()V"), (0, .integer 2147483647), (0, .methodref 9 10), (0, .class_ 11), (0, .nameAndType 12 13), (0, u "java/lang/Math"), (0, u "max"), (0, u "(II)I"), (0, .class_ 15), (0, u "com/example/frameloom/frameloom/queue/Crop"), (0, .methodref 14 17), (0, .nameAndType 5 18), (0, u "(IIII)V"), (0, .methodref 14 20), (0, .nameAndType 21 22), (0, u "fits"), (0, u "(II)Z"), (2, .class_ 26), (0, u "com/example/frameloom/frameloom/queue/CropFitsPinLaw"), (2, u "law"), (0, u "(IIIIII)Z")] 3

def k1m0 : Method := { name := "<init>", desc := "()V", sig := { parameters := [], returnType := none }, accessFlags := 1, code := none }
def k1c1 : Code := { maxStack := 6, maxLocals := 17, code := code, exceptionTable := #[], attributes := #[] }
def k1m1 : Method := { name := "law", desc := "(IIIIII)Z", sig := { parameters := [.int, .int, .int, .int, .int, .int], returnType := some .boolean }, accessFlags := 9, code := some k1c1 }
/-- com/example/frameloom/frameloom/queue/CropFitsPinLaw -/
def k1 : Class := { plain "com/example/frameloom/frameloom/queue/CropFitsPinLaw" (some 0) with
  accessFlags := 49
  interfaces := #[]
  cf := some (fileOf pool1 25 #[] #[{ accessFlags := 1, nameIndex := 5, descriptorIndex := 6, attributes := #[] }, { accessFlags := 9, nameIndex := 29, descriptorIndex := 30, attributes := #[] }] 49 2 #[] #[])
  fields := #[]
  methods := #[k1m0, k1m1]
  instanceTypes := #[]
  staticTypes := #[]
  resolved := Array.replicate 34 none
  statics := none }

def pool2 : Array CpInfo := pool [(1, .class_ 2), (0, u "java/lang/Math"), (1, .class_ 6), (1, u "java/lang/Object"), (0, u "<init>"), (0, u "()V"), (89, .class_ 100), (1, u "java/lang/Math$RandomNumberGeneratorHolder"), (71, u "negativeZeroFloatBits"), (0, u "J"), (2, u "negativeZeroDoubleBits"), (21, u "max"), (46, u "$assertionsDisabled"), (0, u "Z"), (88, u "(II)I"), (2, u "twoToTheDoubleScaleDown"), (0, u "D"), (4, u "twoToTheDoubleScaleUp"), (9, u "E"), (3, u "PI"), (2, u "TAU"), (2, u "DEGREES_TO_RADIANS"), (0, u "RADIANS_TO_DEGREES")] 94

def k2m0 : Method := { name := "<init>", desc := "()V", sig := { parameters := [], returnType := none }, accessFlags := 2, code := none }
def k2c1 : Code := { maxStack := 2, maxLocals := 2, code := jdk_29_method_65_code, exceptionTable := #[], attributes := #[] }
def k2m1 : Method := { name := "max", desc := "(II)I", sig := { parameters := [.int, .int], returnType := some .int }, accessFlags := 9, code := some k2c1 }
/-- java/lang/Math -/
def k2 : Class := { plain "java/lang/Math" (some 0) with
  accessFlags := 49
  interfaces := #[]
  cf := some (fileOf pool2 1 #[.nestMembers #[98]] #[{ accessFlags := 2, nameIndex := 7, descriptorIndex := 8, attributes := #[] }, { accessFlags := 9, nameIndex := 198, descriptorIndex := 335, attributes := #[] }] 49 4 #[] #[{ accessFlags := 25, nameIndex := 354, descriptorIndex := 339, attributes := #[] }, { accessFlags := 25, nameIndex := 358, descriptorIndex := 339, attributes := #[] }, { accessFlags := 25, nameIndex := 361, descriptorIndex := 339, attributes := #[] }, { accessFlags := 26, nameIndex := 364, descriptorIndex := 339, attributes := #[] }, { accessFlags := 26, nameIndex := 365, descriptorIndex := 339, attributes := #[] }, { accessFlags := 26, nameIndex := 172, descriptorIndex := 173, attributes := #[] }, { accessFlags := 26, nameIndex := 176, descriptorIndex := 173, attributes := #[] }, { accessFlags := 8, nameIndex := 344, descriptorIndex := 339, attributes := #[] }, { accessFlags := 8, nameIndex := 338, descriptorIndex := 339, attributes := #[] }, { accessFlags := 4120, nameIndex := 245, descriptorIndex := 246, attributes := #[] }])
  fields := #[{ name := "E", type := .double, accessFlags := 25, slot := 0, constantValue := 0 }, { name := "PI", type := .double, accessFlags := 25, slot := 1, constantValue := 0 }, { name := "TAU", type := .double, accessFlags := 25, slot := 2, constantValue := 0 }, { name := "DEGREES_TO_RADIANS", type := .double, accessFlags := 26, slot := 3, constantValue := 0 }, { name := "RADIANS_TO_DEGREES", type := .double, accessFlags := 26, slot := 4, constantValue := 0 }, { name := "negativeZeroFloatBits", type := .long, accessFlags := 26, slot := 5, constantValue := 0 }, { name := "negativeZeroDoubleBits", type := .long, accessFlags := 26, slot := 6, constantValue := 0 }, { name := "twoToTheDoubleScaleUp", type := .double, accessFlags := 8, slot := 7, constantValue := 0 }, { name := "twoToTheDoubleScaleDown", type := .double, accessFlags := 8, slot := 8, constantValue := 0 }, { name := "$assertionsDisabled", type := .boolean, accessFlags := 4120, slot := 9, constantValue := 0 }]
  methods := #[k2m0, k2m1]
  instanceTypes := #[]
  staticTypes := #[.double, .double, .double, .double, .double, .long, .long, .double, .double, .boolean]
  resolved := Array.replicate 460 none
  statics := none }

def pool3 : Array CpInfo := pool [(1, .methodref 2 3), (0, .class_ 4), (0, .nameAndType 5 6), (0, u "java/lang/Object"), (0, u "<init>"), (0, u "()V"), (0, .class_ 8), (0, u "java/lang/Record")] 13

def k3c0 : Code := { maxStack := 1, maxLocals := 1, code := jdk_30_method_1_code, exceptionTable := #[], attributes := #[] }
def k3m0 : Method := { name := "<init>", desc := "()V", sig := { parameters := [], returnType := none }, accessFlags := 4, code := some k3c0 }
/-- java/lang/Record -/
def k3 : Class := { plain "java/lang/Record" (some 0) with
  accessFlags := 1057
  interfaces := #[]
  cf := some (fileOf pool3 7 #[] #[{ accessFlags := 4, nameIndex := 5, descriptorIndex := 6, attributes := #[] }] 1057 2 #[] #[])
  fields := #[]
  methods := #[k3m0]
  instanceTypes := #[]
  staticTypes := #[]
  resolved := Array.replicate 22 none
  statics := none }

def pool4 : Array CpInfo := pool [(1, .methodref 2 3), (0, .class_ 4), (0, .nameAndType 5 6), (0, u "java/lang/Record"), (0, u "<init>"), (0, u "()V"), (9, .class_ 18), (1, u "com/example/frameloom/frameloom/queue/Crop"), (9, .fieldref 16 29), (0, .nameAndType 30 31), (0, u "left"), (0, u "I"), (0, .fieldref 16 33), (0, .nameAndType 34 31), (0, u "top"), (0, .fieldref 16 36), (0, .nameAndType 37 31), (0, u "right"), (0, .fieldref 16 39), (0, .nameAndType 40 31), (0, u "bottom"), (10, u "(IIII)V"), (4, u "fits"), (0, u "(II)Z")] 37

def k4c0 : Code := { maxStack := 7, maxLocals := 5, code := prog_47_method_1_code, exceptionTable := #[], attributes := #[] }
def k4m0 : Method := { name := "<init>", desc := "(IIII)V", sig := { parameters := [.int, .int, .int, .int], returnType := none }, accessFlags := 1, code := some k4c0 }
def k4c1 : Code := { maxStack := 2, maxLocals := 3, code := prog_47_method_2_code, exceptionTable := #[], attributes := #[] }
def k4m1 : Method := { name := "fits", desc := "(II)Z", sig := { parameters := [.int, .int], returnType := some .boolean }, accessFlags := 0, code := some k4c1 }
/-- com/example/frameloom/frameloom/queue/Crop -/
def k4 : Class := { plain "com/example/frameloom/frameloom/queue/Crop" (some 3) with
  accessFlags := 49
  interfaces := #[]
  cf := some (fileOf pool4 16 #[] #[{ accessFlags := 1, nameIndex := 5, descriptorIndex := 51, attributes := #[] }, { accessFlags := 0, nameIndex := 56, descriptorIndex := 57, attributes := #[] }] 49 2 #[] #[{ accessFlags := 18, nameIndex := 30, descriptorIndex := 31, attributes := #[] }, { accessFlags := 18, nameIndex := 34, descriptorIndex := 31, attributes := #[] }, { accessFlags := 18, nameIndex := 37, descriptorIndex := 31, attributes := #[] }, { accessFlags := 18, nameIndex := 40, descriptorIndex := 31, attributes := #[] }])
  fields := #[{ name := "left", type := .int, accessFlags := 18, slot := 0, constantValue := 0 }, { name := "top", type := .int, accessFlags := 18, slot := 1, constantValue := 0 }, { name := "right", type := .int, accessFlags := 18, slot := 2, constantValue := 0 }, { name := "bottom", type := .int, accessFlags := 18, slot := 3, constantValue := 0 }]
  methods := #[k4m0, k4m1]
  instanceTypes := #[.int, .int, .int, .int]
  staticTypes := #[]
  resolved := Array.replicate 95 none
  statics := none }

def pool5 : Array CpInfo := pool [(1, u "java/lang/Cloneable"), (0, .class_ 1), (0, u "java/lang/Object"), (0, .class_ 3)] 3

/-- java/lang/Cloneable -/
def k5 : Class := { plain "java/lang/Cloneable" (some 0) with
  accessFlags := 1537
  interfaces := #[]
  cf := some (fileOf pool5 2 #[] #[] 1537 4 #[] #[])
  fields := #[]
  methods := #[]
  instanceTypes := #[]
  staticTypes := #[]
  resolved := Array.replicate 8 none
  statics := none }

def pool6 : Array CpInfo := pool [(1, u "java/io/Serializable"), (0, .class_ 1), (0, u "java/lang/Object"), (0, .class_ 3)] 3

/-- java/io/Serializable -/
def k6 : Class := { plain "java/io/Serializable" (some 0) with
  accessFlags := 1537
  interfaces := #[]
  cf := some (fileOf pool6 2 #[] #[] 1537 4 #[] #[])
  fields := #[]
  methods := #[]
  instanceTypes := #[]
  staticTypes := #[]
  resolved := Array.replicate 8 none
  statics := none }

/-- the primitive byte -/
def k7 : Class := { plain "byte" none with kind := .primitive 'B', accessFlags := 0x411 }
/-- [B -/
def k8 : Class := { plain "[B" (some 0) with kind := .array 7 .byte, interfaces := #[5, 6], accessFlags := 1041 }

/-- the primitive int -/
def k9 : Class := { plain "int" none with kind := .primitive 'I', accessFlags := 0x411 }
/-- [I -/
def k10 : Class := { plain "[I" (some 0) with kind := .array 9 .int, interfaces := #[5, 6], accessFlags := 1041 }

def heap : Heap := #[]
def classes : Array Class := #[k0, k1, k2, k3, k4, k5, k6, k7, k8, k9, k10]
def interned : List (Array UInt16 × Addr) := []
def slotsUsed : Nat := 0
def theMethod : MethodId := ⟨1, 1⟩
def args0 : Array Value := #[.int 5, .int 5, .int 5, .int 5, .int 5, .int 5]
def aboutOver (below : List Frame) : State where
  vm := { classes := classes, interned := interned.toArray }
  heap := heap
  slotsUsed := slotsUsed
  threads := #[{ frames := .invoking theMethod args0 :: below }]
def below0 : List Frame := [.native { method := ⟨0, 0⟩, args := #[] }]
def about1 : State := aboutOver below0
def p0 : Program := .bare "" "" ""
def e0 : Env := launch0.env 0 0 0
theorem w_frames : about1.frames = Frame.invoking theMethod args0 :: below0 := rfl
set_option maxRecDepth 65536 in
theorem w_args : argsFit about1.vm theMethod args0 = true := by decide +kernel
set_option maxRecDepth 65536 in
theorem w_heap : heapFits about1 = true := by decide +kernel
set_option maxRecDepth 65536 in
theorem w_runnable : about1.curStatus? = some .runnable := by decide +kernel
set_option maxRecDepth 65536 in
theorem w_alone : about1.alone = true := by decide +kernel
set_option maxRecDepth 65536 in
theorem w_named : about1.methodNamed? x = some theMethod := by decide +kernel
set_option maxRecDepth 65536 in
theorem w_hears : about1.hears theMethod below0 = true := by decide +kernel
set_option maxRecDepth 65536 in
theorem w_ripe : about1.ripe theMethod args0 below0 = true := by decide +kernel
theorem w_running : about1.status = .running := rfl
set_option maxRecDepth 65536 in
theorem w_room : about1.hasRoom e0.platform room_1 = true :=
  launch0.hasRoom_least _ room_1 (by decide +kernel) (by decide +kernel) (by decide +kernel) (by decide +kernel) (by decide +kernel) (by decide +kernel)
theorem allAtoms_all (ts : List Jvm.Cond) (a : Array Jvm.Value) (st : Jvm.State) : (allAtoms ts).before a st = ts.all (fun c => c.before a st) := by
  induction ts with
  | nil => rfl
  | cons c t ih =>
    show (Jvm.Cond.and c (allAtoms t)).before a st = _
    rw [Jvm.Cond.before_and, ih, List.all_cons]
def words1 : List Jvm.Cond := Jvm.Cond.code x code maxLocals ret :: tables_1
/-- a 'code' word, met by the world's own term for the bytes: nothing is compared byte by byte -/
theorem code_word {y : MethodName} {bytes : ByteArray} {mx : Nat} {rt : Option FieldType} {a : Array Value} {s : State} {m : MethodId} {meth : Method} {c : Code} (h1 : s.methodNamed? y = some m) (h2 : s.vm.method? m = some meth) (h3 : meth.code = some c) (h4 : c.code = bytes)
    (h5 : (c.maxLocals == mx && c.exceptionTable.isEmpty && decide (c.maxStack ≤ mostOperands) && decide (meth.sig.returnType = rt) && !meth.locks && decide (parseMethodDescriptor y.desc = some meth.sig)) = true) : (Jvm.Cond.code y bytes mx rt).before a s = true := by
  simp only [Bool.and_eq_true, beq_iff_eq, Bool.not_eq_true', decide_eq_true_eq] at h5
  obtain ⟨⟨⟨⟨⟨g1, g2⟩, g3⟩, g4⟩, g5⟩, g6⟩ := h5
  simp [Cond.before, Cond.holds, Cond.value, h1, h2, h3, h4, g1, g2, g3, g4, g5, g6]
def isCode : Jvm.Cond → Bool
  | .code _ _ _ _ => true
  | _ => false
theorem all_split {L : List Jvm.Cond} {P : Jvm.Cond → Bool} (h1 : L.all (fun c => isCode c || P c) = true) (h2 : ∀ c ∈ L.filter isCode, P c = true) : L.all P = true := by
  refine List.all_eq_true.mpr fun c hc => ?_
  have h := List.all_eq_true.mp h1 c hc
  rcases Bool.eq_false_or_eq_true (isCode c) with hi | hi
  · exact h2 c (List.mem_filter.mpr ⟨hc, hi⟩)
  · simpa [hi] using h
set_option maxRecDepth 65536 in
theorem w_c0 : (Jvm.Cond.code x code maxLocals ret).before args0 about1 = true := code_word (m := ⟨1, 1⟩) (meth := k1m1) (c := k1c1) (by decide +kernel) rfl rfl rfl (by decide +kernel)
set_option maxRecDepth 65536 in
theorem w_c1 : (Jvm.Cond.code ({ cls := "java/lang/Math", name := "max", desc := "(II)I" } : Jvm.MethodName) jdk_29_method_65_code (2 : Nat) (Option.some Jvm.ClassFile.FieldType.int)).before args0 about1 = true := code_word (m := ⟨2, 1⟩) (meth := k2m1) (c := k2c1) (by decide +kernel) rfl rfl rfl (by decide +kernel)
set_option maxRecDepth 65536 in
theorem w_c2 : (Jvm.Cond.code ({ cls := "com/example/frameloom/frameloom/queue/Crop", name := "<init>", desc := "(IIII)V" } : Jvm.MethodName) prog_47_method_1_code (5 : Nat) (Option.none : Option Jvm.ClassFile.FieldType)).before args0 about1 = true := code_word (m := ⟨4, 0⟩) (meth := k4m0) (c := k4c0) (by decide +kernel) rfl rfl rfl (by decide +kernel)
set_option maxRecDepth 65536 in
theorem w_c3 : (Jvm.Cond.code ({ cls := "java/lang/Record", name := "<init>", desc := "()V" } : Jvm.MethodName) jdk_30_method_1_code (1 : Nat) (Option.none : Option Jvm.ClassFile.FieldType)).before args0 about1 = true := code_word (m := ⟨3, 0⟩) (meth := k3m0) (c := k3c0) (by decide +kernel) rfl rfl rfl (by decide +kernel)
set_option maxRecDepth 65536 in
theorem w_c4 : (Jvm.Cond.code ({ cls := "java/lang/Object", name := "<init>", desc := "()V" } : Jvm.MethodName) object_method_1_code (1 : Nat) (Option.none : Option Jvm.ClassFile.FieldType)).before args0 about1 = true := code_word (m := ⟨0, 0⟩) (meth := k0m0) (c := k0c0) (by decide +kernel) rfl rfl rfl (by decide +kernel)
set_option maxRecDepth 65536 in
theorem w_c5 : (Jvm.Cond.code ({ cls := "com/example/frameloom/frameloom/queue/Crop", name := "fits", desc := "(II)Z" } : Jvm.MethodName) prog_47_method_2_code (3 : Nat) (Option.some Jvm.ClassFile.FieldType.boolean)).before args0 about1 = true := code_word (m := ⟨4, 1⟩) (meth := k4m1) (c := k4c1) (by decide +kernel) rfl rfl rfl (by decide +kernel)
def codes1 : List Jvm.Cond := [Jvm.Cond.code x code maxLocals ret, Jvm.Cond.code ({ cls := "java/lang/Math", name := "max", desc := "(II)I" } : Jvm.MethodName) jdk_29_method_65_code (2 : Nat) (Option.some Jvm.ClassFile.FieldType.int), Jvm.Cond.code ({ cls := "com/example/frameloom/frameloom/queue/Crop", name := "<init>", desc := "(IIII)V" } : Jvm.MethodName) prog_47_method_1_code (5 : Nat) (Option.none : Option Jvm.ClassFile.FieldType), Jvm.Cond.code ({ cls := "java/lang/Record", name := "<init>", desc := "()V" } : Jvm.MethodName) jdk_30_method_1_code (1 : Nat) (Option.none : Option Jvm.ClassFile.FieldType), Jvm.Cond.code ({ cls := "java/lang/Object", name := "<init>", desc := "()V" } : Jvm.MethodName) object_method_1_code (1 : Nat) (Option.none : Option Jvm.ClassFile.FieldType), Jvm.Cond.code ({ cls := "com/example/frameloom/frameloom/queue/Crop", name := "fits", desc := "(II)Z" } : Jvm.MethodName) prog_47_method_2_code (3 : Nat) (Option.some Jvm.ClassFile.FieldType.boolean)]
set_option maxRecDepth 65536 in
theorem codes_eq : words1.filter isCode = codes1 := rfl
theorem w_codes : ∀ c ∈ words1.filter isCode, c.before args0 about1 = true := by
  rw [codes_eq]
  intro c hc
  simp only [codes1, List.mem_cons, List.not_mem_nil, or_false] at hc
  rcases hc with rfl | rfl | rfl | rfl | rfl | rfl
  · exact w_c0
  · exact w_c1
  · exact w_c2
  · exact w_c3
  · exact w_c4
  · exact w_c5
set_option maxRecDepth 65536 in
theorem w_t1 : (words1.take 24).all (fun c => isCode c || c.before args0 about1) = true := by decide +kernel
set_option maxRecDepth 65536 in
theorem w_t2 : (words1.drop 24).all (fun c => isCode c || c.before args0 about1) = true := by decide +kernel
theorem w_tables : (allAtoms (Jvm.Cond.code x code maxLocals ret :: tables_1)).before args0 about1 = true := by
  rw [allAtoms_all]
  show words1.all (fun c => c.before args0 about1) = true
  refine all_split ?_ w_codes
  rw [← List.take_append_drop 24 words1, List.all_append, w_t1, w_t2]
  rfl
set_option maxRecDepth 65536 in
theorem w_case : (Jvm.Cond.and given_1 narrow_1).before args0 about1 = true := by decide +kernel
theorem w_applies : (headSpec (Jvm.Cond.code x code maxLocals ret :: tables_1) room_1).applies x e0.platform about1 = true :=
  (Spec.applies_iff w_frames).mpr ⟨w_running, w_runnable, w_alone, w_named, w_hears, w_ripe, w_room, w_tables⟩
theorem atStart : AtStart classFile x code maxLocals ret World_1 tables_1 room_1 Calls_1 rest_1 Pre_1 launch0 p0 e0 about1 theMethod args0 below0 :=
  ⟨lists_1, trivial, launch0.admits_env _ _ _, launch0.least_env, fairChoices_fair.cas, fairChoices_fair.clock, w_frames, w_args, w_heap, w_applies, trivial, trivial, w_case⟩
end start1
theorem witness_1 : WitnessClaimed_1 := ⟨start1.p0, start1.e0, start1.about1, start1.theMethod, start1.args0, start1.below0, start1.atStart⟩
end Jvm.Pilot.@@N@@
