import JvmDerived
import JvmDerived.Pilot.@@N@@Statement
import JvmDerived.Pilot.@@N@@Code
set_option linter.unusedVariables false
set_option linter.unusedSimpArgs false
namespace Jvm.RoadKit
open Sem ClassFile Op Lib Jvm.Stand Jvm.Free Jvm.LawKit
section New
variable {p : Program} {l : Launch} {e : Env} {R : Room} {s : State} {m : MethodId} {args : Array Value} {below : List Frame} {meth : Method} {c : Code} {T : State} {locs : List Loc} {cells slots : Nat}
theorem retI (X : Stand p l e R s m args below meth c T locs cells slots) (hx : p.tables.exec = Jvm.exec) {pc : Nat} {Ls : Array Slot} {z : Int32} {rest : List Value} (hret : meth.sig.returnType = some .int) (hd : decode c.code pc = .ok (.ireturn, 1)) {fs : List Frame}
    (hl : ∀ (f : JFrame) (acts : List Action), f.method = m → f.locked = none → f.entered = [] → (doReturn e (T.setTop f) acts (some (.int z))).1 = T.setFrames fs) : Steps p.tables e below (T.setTop (mkF m pc Ls (.int z :: rest))) (T.setFrames fs) := by
  have hm' : T.vm.method? m = some meth := X.method'
  have hn : narrow .int (.int z) = .int z := rfl
  show Steps p.tables e below (T.setTop { method := m, pc := pc, locals := Ls, stack := _ :: rest, locked := none }) _
  jvm_step X.here [X.here.top, hx, hd, hm', hret, hn]
  first | (intro acts; rw [hl _ acts rfl rfl rfl]) | rw [hl _ _ rfl rfl rfl]
  exact Steps.refl _
end New
variable {Z : State} {h h' : Heap} {C n d : String} {v w : Value} {ws : List Addr}
theorem own_staKeep (F : Sta Z h C n d v) (K : Keep h h' ws) (q : ∀ x ∈ ws, ∀ c : Cell, h[x]? = some c → c.vm.isStatics = false) : Sta Z h' C n d v := by
  obtain ⟨cf, i, k, f, st, cell, h1, h2, h3, h4, h5, h6, h7⟩ := F
  refine ⟨cf, i, k, f, st, cell, h1, h2, h3, h4, K.2.1 _ _ h5 (fun r => ?_), h6, h7⟩
  rw [q _ r _ h5] at h6; cases h6
theorem own_staNew {n0 : Nat} (F : Sta Z h C n d v) (K : Keep h h' ws) (hn : ∀ x ∈ ws, n0 ≤ x) (hs : ∀ (x : Addr) (c : Cell), h[x]? = some c → c.vm.isStatics = true → x < n0) : Sta Z h' C n d v := by
  obtain ⟨cf, i, k, f, st, cell, h1, h2, h3, h4, h5, h6, h7⟩ := F
  exact ⟨cf, i, k, f, st, cell, h1, h2, h3, h4, K.2.1 _ _ h5 (fun r => absurd (hs _ _ h5 h6) (Nat.not_lt.mpr (hn _ r))), h6, h7⟩
theorem own_fldI {args : Array Value} {s : State} {t : Term} {a : Addr} {C n d : String} {k : Int32} (ht : t.eval args s none [] s = some (.ref a)) (h : (Cond.eq (.field t C n d) (.int k)).value args s none s [] = some true) : Fld s s.heap a C n d (.int k) := Fld.start ((fld_at ht).symm.trans (eqv_i rfl h))
theorem own_fldR {args : Array Value} {s : State} {t u : Term} {a b : Addr} {C n d : String} (ht : t.eval args s none [] s = some (.ref a)) (hu : u.eval args s none [] s = some (.ref b)) (h : (Cond.eq (.field t C n d) u).value args s none s [] = some true) : Fld s s.heap a C n d (.ref b) := by
  obtain ⟨x, y, ex, ey, kx, ky⟩ := cmp_v (Or.inl h)
  have e1 : s.fieldOf? a C n d = some x := by rw [← fld_at ht]; exact ex
  cases hu.symm.trans ey
  have q : x = .ref b := by
    cases x <;> simp [Cond.value, ex, hu] at h ⊢
    exact h
  exact Fld.start (by rw [e1, q])
theorem own_staL {args : Array Value} {s : State} {C n d : String} {k : Int64} (h : (Cond.eq (.static C n d) (.long k)).value args s none s [] = some true) : (Term.static C n d).eval args s none [] s = some (.long k) := eqv_l rfl h
end Jvm.RoadKit
namespace Jvm.Pilot.@@N@@
open Jvm Jvm.ClassFile Sem Op Lib Jvm.Free Jvm.Stand Jvm.LawKit Jvm.RoadKit Bundle Jvm.Pilot.@@N@@.Jvm.D
theorem pd__J_I : parseMethodDescriptor "(J)I" = some ⟨[.long], some .int⟩ := by decide +kernel
theorem pd__I_V : parseMethodDescriptor "(I)V" = some ⟨[.int], none⟩ := by decide +kernel
theorem pd__I_J : parseMethodDescriptor "(I)J" = some ⟨[.int], some .long⟩ := by decide +kernel
theorem pd__Lcom_example_gated_chorus_gatedchorus_limit_Window__JJJI_Z : parseMethodDescriptor "(Lcom/example/gated_chorus/gatedchorus/limit/Window;[JJJI)Z" = some ⟨[(.object "com/example/gated_chorus/gatedchorus/limit/Window"), (.array .long), .long, .long, .int], some .boolean⟩ := by decide +kernel
def own_admit (now o : Int64) (c l : Int32) : Int64 × Int32 × Int32 :=
  if c = 0 then (now, 1, 0) else if now - o < 1000000000 then (if c < l then (o, c + 1, 0) else (o, c, (((((o + 1000000000) - now) + 1000000) - 1) / 1000000).toInt32)) else (now, 1, 0)
def own_gap (x : Int32) : Int64 := ((x &&& 2147483647) % 1500000001).toInt64
def own_inv (now o : Int64) (c l : Int32) (e cc : Int64) : Prop := now - o = e ∧ 0 ≤ e.toInt ∧ e.toInt < 1000000000 ∧ 1 ≤ c.toInt ∧ c.toInt ≤ l.toInt ∧ l.toInt ≤ 4 ∧ cc.toInt = c.toInt
theorem own_gapR (x : Int32) : 0 ≤ (own_gap x).toInt ∧ (own_gap x).toInt ≤ 1500000000 := by
  unfold own_gap
  have h := c_and x 2147483647 (by decide)
  have h2 : ((x &&& 2147483647) % 1500000001).toInt = (x &&& 2147483647).toInt % 1500000001 := (c_irem (x &&& 2147483647) 1500000001 1500000001 (by rfl)).1 h.1
  rw [c_i2l, h2]
  omega
theorem own_lim (x : Int32) : 1 ≤ ((x &&& 3) + 1).toInt ∧ ((x &&& 3) + 1).toInt ≤ 4 := by
  have h : (x &&& 3).toInt = x.toInt % 4 := c_mask x 3 2 (by decide) (by decide)
  have h1 := c_iadd (x &&& 3) 1
  have h2 := rng32 ((x &&& 3) + 1)
  have h7 : (1 : Int32).toInt = 1 := rfl
  omega
theorem own_in {pn o gp e : Int64} {now : Int64} (hI : pn - o = e) (hn : now = pn + gp) : now - o = e + gp := by
  subst hI hn
  rw [← Int64.toInt_inj]
  have h1 := c_lsub (pn + gp) o
  have h2 := c_ladd pn gp
  have h3 := c_ladd (pn - o) gp
  have h4 := c_lsub pn o
  have h5 := rng64 (pn + gp - o)
  have h6 := rng64 (pn - o + gp)
  omega
theorem own_c0 {c : Int32} (h : 1 ≤ c.toInt) : ¬ c = 0 := fun q => by rw [q] at h; exact absurd h (by decide)
theorem own_sum {e gp : Int64} (h1 : 0 ≤ e.toInt) (h2 : e.toInt < 1000000000) (h3 : 0 ≤ gp.toInt) (h4 : gp.toInt ≤ 1500000000) : (e + gp).toInt = e.toInt + gp.toInt := by
  have h5 := c_ladd e gp
  have h6 := rng64 (e + gp)
  omega
theorem own_lt64 {cc : Int64} {c l : Int32} (h : cc.toInt = c.toInt) : (cc < l.toInt64) ↔ c < l := by
  rw [Int64.lt_iff_toInt_lt, Int32.lt_iff_toInt_lt, c_i2l, h]
theorem own_inv1 (now : Int64) {l : Int32} (h1 : 1 ≤ l.toInt) (h2 : l.toInt ≤ 4) : own_inv now now 1 l 0 1 := by
  refine ⟨?_, ?_, ?_, ?_, ?_, h2, ?_⟩
  · rw [← Int64.toInt_inj]
    have h3 := c_lsub now now
    have h4 := rng64 (now - now)
    have h5 : (0 : Int64).toInt = 0 := rfl
    omega
  · decide
  · decide
  · decide
  · have : (1 : Int32).toInt = 1 := rfl
    omega
  · decide
theorem own_inv2 {pn o gp e cc now : Int64} {c l : Int32} (hI : own_inv pn o c l e cc) (hn : now = pn + gp) (h3 : 0 ≤ gp.toInt) (h4 : gp.toInt ≤ 1500000000) (hl : e + gp < 1000000000) (hc : c < l) : own_inv now o (c + 1) l (e + gp) (cc + 1) := by
  obtain ⟨i1, i2, i3, i4, i5, i6, i7⟩ := hI
  have q := own_sum i2 i3 h3 h4
  rw [Int64.lt_iff_toInt_lt] at hl
  rw [Int32.lt_iff_toInt_lt] at hc
  have h5 : (1000000000 : Int64).toInt = 1000000000 := rfl
  have h6 : (1 : Int32).toInt = 1 := rfl
  have h7 : (1 : Int64).toInt = 1 := rfl
  have h8 := c_iadd c 1
  have h9 := c_ladd cc 1
  have h10 := rng32 (c + 1)
  have h11 := rng64 (cc + 1)
  refine ⟨own_in i1 hn, ?_, ?_, ?_, ?_, i6, ?_⟩ <;> omega
theorem own_inv3 {pn o gp e cc now : Int64} {c l : Int32} (hI : own_inv pn o c l e cc) (hn : now = pn + gp) (h3 : 0 ≤ gp.toInt) (h4 : gp.toInt ≤ 1500000000) (hl : e + gp < 1000000000) : own_inv now o c l (e + gp) cc := by
  obtain ⟨i1, i2, i3, i4, i5, i6, i7⟩ := hI
  have q := own_sum i2 i3 h3 h4
  rw [Int64.lt_iff_toInt_lt] at hl
  have h5 : (1000000000 : Int64).toInt = 1000000000 := rfl
  refine ⟨own_in i1 hn, ?_, ?_, i4, i5, i6, i7⟩ <;> omega
theorem own_e1 (o now : Int64) : (((o + 1000000000) - now) + 1000000) - 1 = (1000999999 : Int64) - (now - o) := by grind
theorem own_left {o now x : Int64} (h : now - o = x) (h1 : 0 ≤ x.toInt) (h2 : x.toInt < 1000000000) : (((((o + 1000000000) - now) + 1000000) - 1) / 1000000).toInt32 = (1000 : Int32) - (x / 1000000).toInt32 := by
  subst h
  rw [own_e1]
  generalize now - o = x at *
  have k4 : (1000999999 : Int64).toInt = 1000999999 := rfl
  have q : (1000999999 - x).toInt = 1000999999 - x.toInt := by
    have a6 := c_lsub 1000999999 x
    have b2 := rng64 (1000999999 - x)
    omega
  have d1 := (c_ldiv (1000999999 - x) 1000000 1000000 (by rfl) (by decide)).1 (by omega)
  have d2 := (c_ldiv x 1000000 1000000 (by rfl) (by decide)).1 h1
  rw [q] at d1
  have f1 : ((1000999999 - x) / 1000000).toInt32.toInt = (1000999999 - x.toInt) / 1000000 := by
    have l1 := c_l2i ((1000999999 - x) / 1000000)
    have r1 := rng32 ((1000999999 - x) / 1000000).toInt32
    rw [d1] at l1
    omega
  have f2 : (x / 1000000).toInt32.toInt = x.toInt / 1000000 := by
    have l2 := c_l2i (x / 1000000)
    have r2 := rng32 (x / 1000000).toInt32
    rw [d2] at l2
    omega
  have k5 : (1000 : Int32).toInt = 1000 := rfl
  have f3 : (1000 - (x / 1000000).toInt32).toInt = 1000 - x.toInt / 1000000 := by
    have s1 := c_isub 1000 (x / 1000000).toInt32
    have r3 := rng32 (1000 - (x / 1000000).toInt32)
    rw [f2] at s1
    omega
  rw [← Int32.toInt_inj, f1, f3]
  omega
theorem d1_0 : decode prog_18_method_1_code 0 = .ok (.aload_n 0, 1) := by decide +kernel
theorem d1_1 : decode prog_18_method_1_code 1 = .ok (.invokespecial 1, 3) := by decide +kernel
theorem d1_4 : decode prog_18_method_1_code 4 = .ok (.aload_n 0, 1) := by decide +kernel
theorem d1_5 : decode prog_18_method_1_code 5 = .ok (.iload_n 1, 1) := by decide +kernel
theorem d1_6 : decode prog_18_method_1_code 6 = .ok (.putfield 7, 3) := by decide +kernel
theorem d1_9 : decode prog_18_method_1_code 9 = .ok (.return_, 1) := by decide +kernel
theorem ef_1 (m : MethodId) (x0 : Addr) (x1 : Int32) : entryFrame m #[(.ref x0), (.int x1)] 2 = mkF m 0 #[.val (.ref x0), .val (.int x1)] [] := by first | (simp [entryFrame, mkF, argsToLocals, Value.category]; done) | rfl
theorem pn_com_example_gated_chorus_gatedchorus_limit_Window : plainName "com/example/gated_chorus/gatedchorus/limit/Window" = true := by first | (simp [plainName, overriddenIn]; done) | decide +kernel
def Q_1 (Z : State) (a1 : Addr) (p2 : Int32) (h0 : Heap) (n0 : Nat) (v : Option Value) (h : Heap) (L : List Loc) : Prop := v = none ∧ Fr n0 L ∧ Keep h0 h [a1] ∧ Exa Z h a1 "com/example/gated_chorus/gatedchorus/limit/Window" ∧ Fld Z h a1 "com/example/gated_chorus/gatedchorus/limit/Window" "limit" "I" (.int p2) ∧ Fld Z h a1 "com/example/gated_chorus/gatedchorus/limit/Window" "opened" "J" (.long (0 : Int64)) ∧ Fld Z h a1 "com/example/gated_chorus/gatedchorus/limit/Window" "accepted" "I" (.int (0 : Int32))
set_option maxRecDepth 65536 in
set_option maxHeartbeats 40000000 in
theorem rm_1 (l : Launch) (Z : State) (a0 : Array Value) (hw : ∀ d ∈ tables_1, d.before a0 Z = true) (ws : List Jvm.Cond) (a1 : Addr) (p2 : Int32) (h0 : Heap) (n0 : Nat) (Z0 : n0 ≤ h0.size) (E_a1 : Exa Z h0 a1 "com/example/gated_chorus/gatedchorus/limit/Window") (F_limit : Fld Z h0 a1 "com/example/gated_chorus/gatedchorus/limit/Window" "limit" "I" (.int (0 : Int32))) (F_opened : Fld Z h0 a1 "com/example/gated_chorus/gatedchorus/limit/Window" "opened" "J" (.long (0 : Int64))) (F_accepted : Fld Z h0 a1 "com/example/gated_chorus/gatedchorus/limit/Window" "accepted" "I" (.int (0 : Int32))) (g_a1 : n0 ≤ a1) :
    MetFree l (⟨"com/example/gated_chorus/gatedchorus/limit/Window", "<init>", "(I)V"⟩ : MethodName) (head1 (Jvm.Cond.code (⟨"com/example/gated_chorus/gatedchorus/limit/Window", "<init>", "(I)V"⟩ : MethodName) prog_18_method_1_code 2 none :: ws) ({ frames := 1, cells := 0, slots := 0, locals := 12 } : Room)) (fun a U => a = #[(.ref a1), (.int p2)] ∧ Z.Warmed39 U.vm ∧ U.heap = h0) (fun _ _ _ _ _ => True) (fun _ U o U' => ∃ v L, o = .returned v ∧ Q_1 Z a1 p2 h0 n0 v U'.heap L ∧ FrameEnd U o U' L ({ frames := 1, cells := 0, slots := 0, locals := 12 } : Room).cells ({ frames := 1, cells := 0, slots := 0, locals := 12 } : Room).slots) := by
  refine MetFree.of_bodySF (plainFor_of_name pn_com_example_gated_chorus_gatedchorus_limit_Window) hisR ?_
  intro p e s m args below meth c s₁ Bd hml0 hP hK
  obtain ⟨rfl, hZ, hh⟩ := hP
  have hx := Bd.exec
  have hby := Bd.bytes
  have hml : c.maxLocals = 2 := hml0
  have hown : s.vm.findClass "com/example/gated_chorus/gatedchorus/limit/Window" = some m.cls := findClass_of_methodNamed Bd.named
  have hnm := (name_of_methodNamed Bd.named Bd.method).1
  have X0 : Stand p l e ({ frames := 1, cells := 0, slots := 0, locals := 12 } : Room) s m #[(.ref a1), (.int p2)] below meth c s₁ [] 0 0 := Stand.of_body Bd
  have e0 : s₁.heap = h0 := by rw [← hh, Bd.state]; rfl
  have N0 := Fr.nil n0
  have pw0 : ∀ t, Steps p.tables e below (s₁.setTop (mkF m 0 #[.val (.ref a1), .val (.int p2)] [])) t → Steps p.tables e below (s₁.setTop (entryFrame m #[(.ref a1), (.int p2)] 2)) t := fun t k => castTop (ef_1 m a1 p2) k
  have K0 : Keep h0 h0 [a1] := Keep.refl h0 [a1]
  obtain ⟨T1, X1, e1, st1⟩ := initO X0 hx hZ hown (hw _ (List.mem_of_getElem? (i := 6) rfl)) (hw _ (List.mem_of_getElem? (i := 7) rfl)) (hw _ (List.mem_of_getElem? (i := 8) rfl)) e0 (g := (mkF m 1 #[.val (.ref a1), .val (.int p2)] [(.ref a1)])) rfl (by rw [hml]; rfl) rfl (hb hby d1_1) (by decide) (W := 0) (by show 2 * 0 + _ ≤ _; exact Nat.le_of_eq rfl) (by decide)
  obtain ⟨T2, h2, X2, e2, W2, st2⟩ := putF X1 hx hZ hown (host := "") (Or.inl (hw _ (List.mem_of_getElem? (i := 9) rfl))) Via.refl e1 F_limit E_a1 (Or.inr ⟨(hw _ (List.mem_of_getElem? (i := 10) rfl)), rfl, hnm⟩) (hw _ (List.mem_of_getElem? (i := 1) rfl)) (ty := .int) (by decide) rfl rfl (g := (mkF m 6 #[.val (.ref a1), .val (.int p2)] [(.int p2), (.ref a1)])) rfl rfl (hb hby d1_6)
  have Fw2 := F_limit.same W2
  have K2 : Keep h0 h2 [a1] := K0.wr W2 (Or.inl (List.mem_of_getElem? (i := 0) rfl))
  have N2 := Fr.snoc X2 N0 g_a1
  have Z2 : n0 ≤ h2.size := (Nat.le_trans Z0 (Nat.le_of_eq (Wr.size W2).symm))
  obtain ⟨fs, hr, hrun, hended, hW, hsame⟩ := X2.leave (v := none) (fun _ => rfl)
  refine ⟨_, _, pw0 _ ?_, hrun, hended, _, _, rfl, ?_, ⟨_, rfl⟩, hW, hsame.mono (by decide) (by decide)⟩
  · skip
    refine XS.aloadN X0.here hx rfl (hb hby d1_0) rfl rfl ?_
    show Steps p.tables e below (s₁.setTop (mkF m 1 #[.val (.ref a1), .val (.int p2)] [(.ref a1)])) _
    refine st1 _ ?_
    show Steps p.tables e below (T1.setTop (mkF m 4 #[.val (.ref a1), .val (.int p2)] [])) _
    refine XS.aloadN X1.here hx rfl (hb hby d1_4) rfl rfl ?_
    show Steps p.tables e below (T1.setTop (mkF m 5 #[.val (.ref a1), .val (.int p2)] [(.ref a1)])) _
    refine XS.iloadN X1.here hx rfl (hb hby d1_5) rfl ?_
    show Steps p.tables e below (T1.setTop (mkF m 6 #[.val (.ref a1), .val (.int p2)] [(.int p2), (.ref a1)])) _
    refine st2 _ ?_
    show Steps p.tables e below (T2.setTop (mkF m 9 #[.val (.ref a1), .val (.int p2)] [])) _
    exact X2.returnOut hx Bd.returns (hb hby d1_9) hr
  · show Q_1 Z a1 p2 h0 n0 _ T2.heap _
    rw [e2]
    exact ⟨rfl, N2, K2, (E_a1.wr W2), Fw2, (F_opened.other W2 (Or.inr (slot_ne (Or.inl (hw _ (List.mem_of_getElem? (i := 26) rfl))) (Or.inr (hw _ (List.mem_of_getElem? (i := 10) rfl))) (by decide) (t := .long) (t' := .int) (by decide) (by decide)))), (F_accepted.other W2 (Or.inr (slot_ne (Or.inl (hw _ (List.mem_of_getElem? (i := 24) rfl))) (Or.inr (hw _ (List.mem_of_getElem? (i := 10) rfl))) (by decide) (t := .int) (t' := .int) (by decide) (by decide))))⟩
theorem d3_0 : decode method_2_code 0 = .ok (.iload_n 0, 1) := by decide +kernel
theorem d3_1 : decode method_2_code 1 = .ok (.ldc 7, 2) := by decide +kernel
theorem d3_3 : decode method_2_code 3 = .ok (.iand, 1) := by decide +kernel
theorem d3_4 : decode method_2_code 4 = .ok (.ldc 8, 2) := by decide +kernel
theorem d3_6 : decode method_2_code 6 = .ok (.irem, 1) := by decide +kernel
theorem d3_7 : decode method_2_code 7 = .ok (.i2l, 1) := by decide +kernel
theorem d3_8 : decode method_2_code 8 = .ok (.lreturn, 1) := by decide +kernel
theorem ef_3 (m : MethodId) (x0 : Int32) : entryFrame m #[(.int x0)] 1 = mkF m 0 #[.val (.int x0)] [] := by first | (simp [entryFrame, mkF, argsToLocals, Value.category]; done) | rfl
theorem pn_com_example_gated_chorus_gatedchorus_limit_WindowAdmitPinLaw : plainName "com/example/gated_chorus/gatedchorus/limit/WindowAdmitPinLaw" = true := by first | (simp [plainName, overriddenIn]; done) | decide +kernel
def Q_3 (Z : State) (p1 : Int32) (r : Int64) (h0 : Heap) (n0 : Nat) (v : Option Value) (h : Heap) (L : List Loc) : Prop := v = some (.long r) ∧ Fr n0 L ∧ h = h0
set_option maxRecDepth 65536 in
set_option maxHeartbeats 40000000 in
theorem rm_3 (l : Launch) (Z : State) (a0 : Array Value) (hw : ∀ d ∈ tables_1, d.before a0 Z = true) (ws : List Jvm.Cond) (p1 : Int32) (r : Int64) (h0 : Heap) (n0 : Nat) (Z0 : n0 ≤ h0.size) (hsp : own_gap p1 = r) :
    MetFree l (⟨"com/example/gated_chorus/gatedchorus/limit/WindowAdmitPinLaw", "gap", "(I)J"⟩ : MethodName) (head1 (Jvm.Cond.code (⟨"com/example/gated_chorus/gatedchorus/limit/WindowAdmitPinLaw", "gap", "(I)J"⟩ : MethodName) method_2_code 1 (some .long) :: ws) ({ frames := 0, cells := 0, slots := 0, locals := 0 } : Room)) (fun a U => a = #[(.int p1)] ∧ Z.Warmed39 U.vm ∧ U.heap = h0) (fun _ _ _ _ _ => True) (fun _ U o U' => ∃ v L, o = .returned v ∧ Q_3 Z p1 r h0 n0 v U'.heap L ∧ FrameEnd U o U' L ({ frames := 0, cells := 0, slots := 0, locals := 0 } : Room).cells ({ frames := 0, cells := 0, slots := 0, locals := 0 } : Room).slots) := by
  refine MetFree.of_bodySF (plainFor_of_name pn_com_example_gated_chorus_gatedchorus_limit_WindowAdmitPinLaw) hisR ?_
  intro p e s m args below meth c s₁ Bd hml0 hP hK
  obtain ⟨rfl, hZ, hh⟩ := hP
  have hx := Bd.exec
  have hby := Bd.bytes
  have hml : c.maxLocals = 1 := hml0
  have hown : s.vm.findClass "com/example/gated_chorus/gatedchorus/limit/WindowAdmitPinLaw" = some m.cls := findClass_of_methodNamed Bd.named
  have hnm := (name_of_methodNamed Bd.named Bd.method).1
  have X0 : Stand p l e ({ frames := 0, cells := 0, slots := 0, locals := 0 } : Room) s m #[(.int p1)] below meth c s₁ [] 0 0 := Stand.of_body Bd
  have e0 : s₁.heap = h0 := by rw [← hh, Bd.state]; rfl
  have N0 := Fr.nil n0
  have pw0 : ∀ t, Steps p.tables e below (s₁.setTop (mkF m 0 #[.val (.int p1)] [])) t → Steps p.tables e below (s₁.setTop (entryFrame m #[(.int p1)] 1)) t := fun t k => castTop (ef_3 m p1) k
  have K0 : Keep h0 h0 [] := Keep.refl h0 []
  obtain ⟨fs, hr, hrun, hended, hW, hsame⟩ := X0.leave (v := some (.long (((p1 &&& (2147483647 : Int32)) % (1500000001 : Int32)).toInt64))) (fun h => by rw [Bd.returns] at h; cases h)
  refine ⟨_, _, pw0 _ ?_, hrun, hended, _, _, rfl, ?_, ⟨_, rfl⟩, hW, hsame.mono (by decide) (by decide)⟩
  · skip
    refine XS.iloadN X0.here hx rfl (hb hby d3_0) rfl ?_
    show Steps p.tables e below (s₁.setTop (mkF m 1 #[.val (.int p1)] [(.int p1)])) _
    refine X0.ldcInt hx hown (mvT hZ (hw _ (List.mem_of_getElem? (i := 16) rfl))) (g := (mkF m 1 #[.val (.int p1)] [(.int p1)])) rfl (hb hby d3_1) _ ?_
    show Steps p.tables e below (s₁.setTop (mkF m 3 #[.val (.int p1)] [(.int (2147483647 : Int32)), (.int p1)])) _
    refine XS.iand X0.here hx rfl (hb hby d3_3) rfl ?_
    show Steps p.tables e below (s₁.setTop (mkF m 4 #[.val (.int p1)] [(.int (p1 &&& (2147483647 : Int32)))])) _
    refine X0.ldcInt hx hown (mvT hZ (hw _ (List.mem_of_getElem? (i := 17) rfl))) (g := (mkF m 4 #[.val (.int p1)] [(.int (p1 &&& (2147483647 : Int32)))])) rfl (hb hby d3_4) _ ?_
    show Steps p.tables e below (s₁.setTop (mkF m 6 #[.val (.int p1)] [(.int (1500000001 : Int32)), (.int (p1 &&& (2147483647 : Int32)))])) _
    refine iremM (g := (mkF m 6 #[.val (.int p1)] [(.int (1500000001 : Int32)), (.int (p1 &&& (2147483647 : Int32)))])) X0 hx rfl (hb hby d3_6) rfl (by decide) ?_
    show Steps p.tables e below (s₁.setTop (mkF m 7 #[.val (.int p1)] [(.int ((p1 &&& (2147483647 : Int32)) % (1500000001 : Int32)))])) _
    refine XS.i2l X0.here hx rfl (hb hby d3_7) rfl ?_
    show Steps p.tables e below (s₁.setTop (mkF m 8 #[.val (.int p1)] [(.long (((p1 &&& (2147483647 : Int32)) % (1500000001 : Int32)).toInt64))])) _
    exact retOut X0 hx Bd.returns rfl (Or.inr (Or.inl ⟨rfl, rfl, _, rfl⟩)) (hb hby d3_8) hr
  · show Q_3 Z p1 r h0 n0 _ s₁.heap _
    rw [e0]
    exact ⟨by rw [← hsp]; rfl, N0, rfl⟩
theorem d4_0 : decode prog_18_method_2_code 0 = .ok (.aload_n 0, 1) := by decide +kernel
theorem d4_1 : decode prog_18_method_2_code 1 = .ok (.getfield 13, 3) := by decide +kernel
theorem d4_4 : decode prog_18_method_2_code 4 = .ok (.ifCond .eq 16, 3) := by decide +kernel
theorem d4_7 : decode prog_18_method_2_code 7 = .ok (.lload_n 1, 1) := by decide +kernel
theorem d4_8 : decode prog_18_method_2_code 8 = .ok (.aload_n 0, 1) := by decide +kernel
theorem d4_9 : decode prog_18_method_2_code 9 = .ok (.getfield 16, 3) := by decide +kernel
theorem d4_12 : decode prog_18_method_2_code 12 = .ok (.lsub, 1) := by decide +kernel
theorem d4_13 : decode prog_18_method_2_code 13 = .ok (.getstatic 20, 3) := by decide +kernel
theorem d4_16 : decode prog_18_method_2_code 16 = .ok (.lcmp, 1) := by decide +kernel
theorem d4_17 : decode prog_18_method_2_code 17 = .ok (.ifCond .lt 15, 3) := by decide +kernel
theorem d4_20 : decode prog_18_method_2_code 20 = .ok (.aload_n 0, 1) := by decide +kernel
theorem d4_21 : decode prog_18_method_2_code 21 = .ok (.lload_n 1, 1) := by decide +kernel
theorem d4_22 : decode prog_18_method_2_code 22 = .ok (.putfield 16, 3) := by decide +kernel
theorem d4_25 : decode prog_18_method_2_code 25 = .ok (.aload_n 0, 1) := by decide +kernel
theorem d4_26 : decode prog_18_method_2_code 26 = .ok (.iconst 1, 1) := by decide +kernel
theorem d4_27 : decode prog_18_method_2_code 27 = .ok (.putfield 13, 3) := by decide +kernel
theorem d4_30 : decode prog_18_method_2_code 30 = .ok (.iconst 0, 1) := by decide +kernel
theorem d4_31 : decode prog_18_method_2_code 31 = .ok (.ireturn, 1) := by decide +kernel
theorem d4_32 : decode prog_18_method_2_code 32 = .ok (.aload_n 0, 1) := by decide +kernel
theorem d4_33 : decode prog_18_method_2_code 33 = .ok (.getfield 13, 3) := by decide +kernel
theorem d4_36 : decode prog_18_method_2_code 36 = .ok (.aload_n 0, 1) := by decide +kernel
theorem d4_37 : decode prog_18_method_2_code 37 = .ok (.getfield 7, 3) := by decide +kernel
theorem d4_40 : decode prog_18_method_2_code 40 = .ok (.if_icmp .ge 15, 3) := by decide +kernel
theorem d4_43 : decode prog_18_method_2_code 43 = .ok (.aload_n 0, 1) := by decide +kernel
theorem d4_44 : decode prog_18_method_2_code 44 = .ok (.dup, 1) := by decide +kernel
theorem d4_45 : decode prog_18_method_2_code 45 = .ok (.getfield 13, 3) := by decide +kernel
theorem d4_48 : decode prog_18_method_2_code 48 = .ok (.iconst 1, 1) := by decide +kernel
theorem d4_49 : decode prog_18_method_2_code 49 = .ok (.iadd, 1) := by decide +kernel
theorem d4_50 : decode prog_18_method_2_code 50 = .ok (.putfield 13, 3) := by decide +kernel
theorem d4_53 : decode prog_18_method_2_code 53 = .ok (.iconst 0, 1) := by decide +kernel
theorem d4_54 : decode prog_18_method_2_code 54 = .ok (.ireturn, 1) := by decide +kernel
theorem d4_55 : decode prog_18_method_2_code 55 = .ok (.aload_n 0, 1) := by decide +kernel
theorem d4_56 : decode prog_18_method_2_code 56 = .ok (.getfield 16, 3) := by decide +kernel
theorem d4_59 : decode prog_18_method_2_code 59 = .ok (.getstatic 20, 3) := by decide +kernel
theorem d4_62 : decode prog_18_method_2_code 62 = .ok (.ladd, 1) := by decide +kernel
theorem d4_63 : decode prog_18_method_2_code 63 = .ok (.lload_n 1, 1) := by decide +kernel
theorem d4_64 : decode prog_18_method_2_code 64 = .ok (.lsub, 1) := by decide +kernel
theorem d4_65 : decode prog_18_method_2_code 65 = .ok (.lstore_n 3, 1) := by decide +kernel
theorem d4_66 : decode prog_18_method_2_code 66 = .ok (.lload_n 3, 1) := by decide +kernel
theorem d4_67 : decode prog_18_method_2_code 67 = .ok (.getstatic 23, 3) := by decide +kernel
theorem d4_70 : decode prog_18_method_2_code 70 = .ok (.ladd, 1) := by decide +kernel
theorem d4_71 : decode prog_18_method_2_code 71 = .ok (.lconst 1, 1) := by decide +kernel
theorem d4_72 : decode prog_18_method_2_code 72 = .ok (.lsub, 1) := by decide +kernel
theorem d4_73 : decode prog_18_method_2_code 73 = .ok (.getstatic 23, 3) := by decide +kernel
theorem d4_76 : decode prog_18_method_2_code 76 = .ok (.ldiv, 1) := by decide +kernel
theorem d4_77 : decode prog_18_method_2_code 77 = .ok (.l2i, 1) := by decide +kernel
theorem d4_78 : decode prog_18_method_2_code 78 = .ok (.ireturn, 1) := by decide +kernel
theorem ef_4 (m : MethodId) (x0 : Addr) (x1 : Int64) : entryFrame m #[(.ref x0), (.long x1)] 5 = mkF m 0 #[.val (.ref x0), .val (.long x1), .second, .unset, .unset] [] := by first | (simp [entryFrame, mkF, argsToLocals, Value.category]; done) | rfl
def Q_4 (Z : State) (a1 : Addr) (now : Int64) (o_ : Int64) (c_ l_ : Int32) (o' : Int64) (c' r : Int32) (h0 : Heap) (n0 : Nat) (v : Option Value) (h : Heap) (L : List Loc) : Prop := v = some (.int r) ∧ Fr n0 L ∧ Keep h0 h [a1] ∧ Exa Z h a1 "com/example/gated_chorus/gatedchorus/limit/Window" ∧ Fld Z h a1 "com/example/gated_chorus/gatedchorus/limit/Window" "limit" "I" (.int l_) ∧ Fld Z h a1 "com/example/gated_chorus/gatedchorus/limit/Window" "opened" "J" (.long o') ∧ Fld Z h a1 "com/example/gated_chorus/gatedchorus/limit/Window" "accepted" "I" (.int c')
set_option maxRecDepth 65536 in
set_option maxHeartbeats 40000000 in
theorem rm_4 (l : Launch) (Z : State) (a0 : Array Value) (hw : ∀ d ∈ tables_1, d.before a0 Z = true) (ws : List Jvm.Cond) (a1 : Addr) (now : Int64) (o_ : Int64) (c_ l_ : Int32) (o' : Int64) (c' r : Int32) (h0 : Heap) (n0 : Nat) (Z0 : n0 ≤ h0.size) (S_L : Sta Z h0 "com/example/gated_chorus/gatedchorus/limit/Window" "LENGTH_NS" "J" (.long (1000000000 : Int64))) (S_N : Sta Z h0 "com/example/gated_chorus/gatedchorus/limit/Window" "NS_PER_MS" "J" (.long (1000000 : Int64))) (E_a1 : Exa Z h0 a1 "com/example/gated_chorus/gatedchorus/limit/Window") (F_limit : Fld Z h0 a1 "com/example/gated_chorus/gatedchorus/limit/Window" "limit" "I" (.int l_)) (F_opened : Fld Z h0 a1 "com/example/gated_chorus/gatedchorus/limit/Window" "opened" "J" (.long o_)) (F_accepted : Fld Z h0 a1 "com/example/gated_chorus/gatedchorus/limit/Window" "accepted" "I" (.int c_)) (g_a1 : n0 ≤ a1) (hsp : own_admit now o_ c_ l_ = (o', c', r)) :
    MetFree l (⟨"com/example/gated_chorus/gatedchorus/limit/Window", "admit", "(J)I"⟩ : MethodName) (head1 (Jvm.Cond.code (⟨"com/example/gated_chorus/gatedchorus/limit/Window", "admit", "(J)I"⟩ : MethodName) prog_18_method_2_code 5 (some .int) :: ws) ({ frames := 0, cells := 0, slots := 0, locals := 0 } : Room)) (fun a U => a = #[(.ref a1), (.long now)] ∧ Z.Warmed39 U.vm ∧ U.heap = h0) (fun _ _ _ _ _ => True) (fun _ U o U' => ∃ v L, o = .returned v ∧ Q_4 Z a1 now o_ c_ l_ o' c' r h0 n0 v U'.heap L ∧ FrameEnd U o U' L ({ frames := 0, cells := 0, slots := 0, locals := 0 } : Room).cells ({ frames := 0, cells := 0, slots := 0, locals := 0 } : Room).slots) := by
  refine MetFree.of_bodySF (plainFor_of_name pn_com_example_gated_chorus_gatedchorus_limit_Window) hisR ?_
  intro p e s m args below meth c s₁ Bd hml0 hP hK
  obtain ⟨rfl, hZ, hh⟩ := hP
  have hx := Bd.exec
  have hby := Bd.bytes
  have hml : c.maxLocals = 5 := hml0
  have hown : s.vm.findClass "com/example/gated_chorus/gatedchorus/limit/Window" = some m.cls := findClass_of_methodNamed Bd.named
  have hnm := (name_of_methodNamed Bd.named Bd.method).1
  have X0 : Stand p l e ({ frames := 0, cells := 0, slots := 0, locals := 0 } : Room) s m #[(.ref a1), (.long now)] below meth c s₁ [] 0 0 := Stand.of_body Bd
  have e0 : s₁.heap = h0 := by rw [← hh, Bd.state]; rfl
  have N0 := Fr.nil n0
  have pw0 : ∀ t, Steps p.tables e below (s₁.setTop (mkF m 0 #[.val (.ref a1), .val (.long now), .second, .unset, .unset] [])) t → Steps p.tables e below (s₁.setTop (entryFrame m #[(.ref a1), (.long now)] 5)) t := fun t k => castTop (ef_4 m a1 now) k
  have K0 : Keep h0 h0 [a1] := Keep.refl h0 [a1]
  obtain ⟨T3, X3, e3, st3⟩ := getF X0 hx hZ hown (host := "") (Or.inl (hw _ (List.mem_of_getElem? (i := 23) rfl))) Via.refl e0 F_accepted (g := (mkF m 1 #[.val (.ref a1), .val (.long now), .second, .unset, .unset] [(.ref a1)])) rfl rfl (hb hby d4_1)
  have pw4 : ∀ t, Steps p.tables e below (T3.setTop (mkF m 4 #[.val (.ref a1), .val (.long now), .second, .unset, .unset] [(.int c_)])) t → Steps p.tables e below (s₁.setTop (entryFrame m #[(.ref a1), (.long now)] 5)) t := by
    intro t k
    refine pw0 t ?_
    refine XS.aloadN X0.here hx rfl (hb hby d4_0) rfl rfl ?_
    show Steps p.tables e below (s₁.setTop (mkF m 1 #[.val (.ref a1), .val (.long now), .second, .unset, .unset] [(.ref a1)])) _
    refine st3 _ ?_
    show Steps p.tables e below (T3.setTop (mkF m 4 #[.val (.ref a1), .val (.long now), .second, .unset, .unset] [(.int c_)])) _
    exact k
  by_cases hc5 : c_ = (0 : Int32)
  · skip
    obtain ⟨T6, h6, X6, e6, W6, st6⟩ := putF X3 hx hZ hown (host := "") (Or.inl (hw _ (List.mem_of_getElem? (i := 25) rfl))) Via.refl e3 F_opened E_a1 (Or.inl (hw _ (List.mem_of_getElem? (i := 26) rfl))) (hw _ (List.mem_of_getElem? (i := 1) rfl)) (ty := .long) (by decide) rfl rfl (g := (mkF m 22 #[.val (.ref a1), .val (.long now), .second, .unset, .unset] [(.long now), (.ref a1)])) rfl rfl (hb hby d4_22)
    have Fw6 := F_opened.same W6
    have K6 : Keep h0 h6 [a1] := K0.wr W6 (Or.inl (List.mem_of_getElem? (i := 0) rfl))
    have N6 := Fr.snoc X6 N0 g_a1
    have Z6 : n0 ≤ h6.size := (Nat.le_trans Z0 (Nat.le_of_eq (Wr.size W6).symm))
    obtain ⟨T7, h7, X7, e7, W7, st7⟩ := putF X6 hx hZ hown (host := "") (Or.inl (hw _ (List.mem_of_getElem? (i := 23) rfl))) Via.refl e6 (F_accepted.other W6 (Or.inr (slot_ne (Or.inl (hw _ (List.mem_of_getElem? (i := 24) rfl))) (Or.inl (hw _ (List.mem_of_getElem? (i := 26) rfl))) (by decide) (t := .int) (t' := .long) (by decide) (by decide)))) (E_a1.wr W6) (Or.inl (hw _ (List.mem_of_getElem? (i := 24) rfl))) (hw _ (List.mem_of_getElem? (i := 1) rfl)) (ty := .int) (by decide) rfl rfl (g := (mkF m 27 #[.val (.ref a1), .val (.long now), .second, .unset, .unset] [(.int (1 : Int32)), (.ref a1)])) rfl rfl (hb hby d4_27)
    have Fw7 := (F_accepted.other W6 (Or.inr (slot_ne (Or.inl (hw _ (List.mem_of_getElem? (i := 24) rfl))) (Or.inl (hw _ (List.mem_of_getElem? (i := 26) rfl))) (by decide) (t := .int) (t' := .long) (by decide) (by decide)))).same W7
    have K7 : Keep h0 h7 [a1] := K6.wr W7 (Or.inl (List.mem_of_getElem? (i := 0) rfl))
    have N7 := Fr.snoc X7 N6 g_a1
    have Z7 : n0 ≤ h7.size := (Nat.le_trans Z6 (Nat.le_of_eq (Wr.size W7).symm))
    obtain ⟨fs, hr, hrun, hended, hW, hsame⟩ := X7.leave (v := some (.int (0 : Int32))) (fun h => by rw [Bd.returns] at h; cases h)
    refine ⟨_, _, pw4 _ ?_, hrun, hended, _, _, rfl, ?_, ⟨_, rfl⟩, hW, hsame.mono (by decide) (by decide)⟩
    · skip
      refine XS.ifYes X3.here hx rfl (pc0 := 4) (pc' := 20) rfl (hb hby d4_4) rfl ((if0 _ _).trans (teq hc5).1) (by decide) (by decide) ?_
      show Steps p.tables e below (T3.setTop (mkF m 20 #[.val (.ref a1), .val (.long now), .second, .unset, .unset] [])) _
      refine XS.aloadN X3.here hx rfl (hb hby d4_20) rfl rfl ?_
      show Steps p.tables e below (T3.setTop (mkF m 21 #[.val (.ref a1), .val (.long now), .second, .unset, .unset] [(.ref a1)])) _
      refine XS.lloadN X3.here hx rfl (hb hby d4_21) rfl ?_
      show Steps p.tables e below (T3.setTop (mkF m 22 #[.val (.ref a1), .val (.long now), .second, .unset, .unset] [(.long now), (.ref a1)])) _
      refine st6 _ ?_
      show Steps p.tables e below (T6.setTop (mkF m 25 #[.val (.ref a1), .val (.long now), .second, .unset, .unset] [])) _
      refine XS.aloadN X6.here hx rfl (hb hby d4_25) rfl rfl ?_
      show Steps p.tables e below (T6.setTop (mkF m 26 #[.val (.ref a1), .val (.long now), .second, .unset, .unset] [(.ref a1)])) _
      refine XS.iconst X6.here hx rfl (hb hby d4_26) ?_
      show Steps p.tables e below (T6.setTop (mkF m 27 #[.val (.ref a1), .val (.long now), .second, .unset, .unset] [(.int (1 : Int32)), (.ref a1)])) _
      refine st7 _ ?_
      show Steps p.tables e below (T7.setTop (mkF m 30 #[.val (.ref a1), .val (.long now), .second, .unset, .unset] [])) _
      refine XS.iconst X7.here hx rfl (hb hby d4_30) ?_
      show Steps p.tables e below (T7.setTop (mkF m 31 #[.val (.ref a1), .val (.long now), .second, .unset, .unset] [(.int (0 : Int32))])) _
      exact retI X7 hx Bd.returns (hb hby d4_31) hr
    · show Q_4 Z a1 now o_ c_ l_ o' c' r h0 n0 _ T7.heap _
      rw [e7]
      have hh2 := hsp
      unfold own_admit at hh2
      rw [if_pos hc5] at hh2
      cases hh2
      exact ⟨rfl, N7, K7, ((E_a1.wr W6).wr W7), ((F_limit.other W6 (Or.inr (slot_ne (Or.inr (hw _ (List.mem_of_getElem? (i := 10) rfl))) (Or.inl (hw _ (List.mem_of_getElem? (i := 26) rfl))) (by decide) (t := .int) (t' := .long) (by decide) (by decide)))).other W7 (Or.inr (slot_ne (Or.inr (hw _ (List.mem_of_getElem? (i := 10) rfl))) (Or.inl (hw _ (List.mem_of_getElem? (i := 24) rfl))) (by decide) (t := .int) (t' := .int) (by decide) (by decide)))), (Fw6.other W7 (Or.inr (slot_ne (Or.inl (hw _ (List.mem_of_getElem? (i := 26) rfl))) (Or.inl (hw _ (List.mem_of_getElem? (i := 24) rfl))) (by decide) (t := .long) (t' := .int) (by decide) (by decide)))), Fw7⟩
  · skip
    obtain ⟨T8, X8, e8, st8⟩ := getF X3 hx hZ hown (host := "") (Or.inl (hw _ (List.mem_of_getElem? (i := 25) rfl))) Via.refl e3 F_opened (g := (mkF m 9 #[.val (.ref a1), .val (.long now), .second, .unset, .unset] [(.ref a1), (.long now)])) rfl rfl (hb hby d4_9)
    obtain ⟨T9, X9, e9, st9⟩ := getS2 X8 hx hZ hown (host := "") (Or.inl (hw _ (List.mem_of_getElem? (i := 30) rfl))) Via.refl e8 S_L (g := (mkF m 13 #[.val (.ref a1), .val (.long now), .second, .unset, .unset] [(.long (now - o_))])) rfl (hb hby d4_13)
    have pw10 : ∀ t, Steps p.tables e below (T9.setTop (mkF m 17 #[.val (.ref a1), .val (.long now), .second, .unset, .unset] [(.int (lcmpW (now - o_) (1000000000 : Int64)))])) t → Steps p.tables e below (s₁.setTop (entryFrame m #[(.ref a1), (.long now)] 5)) t := by
      intro t k
      refine pw4 t ?_
      refine XS.ifNo X3.here hx rfl (hb hby d4_4) rfl ((if0 _ _).trans (feq hc5).1) ?_
      show Steps p.tables e below (T3.setTop (mkF m 7 #[.val (.ref a1), .val (.long now), .second, .unset, .unset] [])) _
      refine XS.lloadN X3.here hx rfl (hb hby d4_7) rfl ?_
      show Steps p.tables e below (T3.setTop (mkF m 8 #[.val (.ref a1), .val (.long now), .second, .unset, .unset] [(.long now)])) _
      refine XS.aloadN X3.here hx rfl (hb hby d4_8) rfl rfl ?_
      show Steps p.tables e below (T3.setTop (mkF m 9 #[.val (.ref a1), .val (.long now), .second, .unset, .unset] [(.ref a1), (.long now)])) _
      refine st8 _ ?_
      show Steps p.tables e below (T8.setTop (mkF m 12 #[.val (.ref a1), .val (.long now), .second, .unset, .unset] [(.long o_), (.long now)])) _
      refine XS.lsub X8.here hx rfl (hb hby d4_12) rfl ?_
      show Steps p.tables e below (T8.setTop (mkF m 13 #[.val (.ref a1), .val (.long now), .second, .unset, .unset] [(.long (now - o_))])) _
      refine st9 _ ?_
      show Steps p.tables e below (T9.setTop (mkF m 16 #[.val (.ref a1), .val (.long now), .second, .unset, .unset] [(.long (1000000000 : Int64)), (.long (now - o_))])) _
      refine XS.lcmp X9.here hx rfl (hb hby d4_16) rfl ?_
      show Steps p.tables e below (T9.setTop (mkF m 17 #[.val (.ref a1), .val (.long now), .second, .unset, .unset] [(.int (lcmpW (now - o_) (1000000000 : Int64)))])) _
      exact k
    by_cases hc11 : (now - o_) < (1000000000 : Int64)
    · skip
      obtain ⟨T12, X12, e12, st12⟩ := getF X9 hx hZ hown (host := "") (Or.inl (hw _ (List.mem_of_getElem? (i := 23) rfl))) Via.refl e9 F_accepted (g := (mkF m 33 #[.val (.ref a1), .val (.long now), .second, .unset, .unset] [(.ref a1)])) rfl rfl (hb hby d4_33)
      obtain ⟨T13, X13, e13, st13⟩ := getF X12 hx hZ hown (host := "") (Or.inl (hw _ (List.mem_of_getElem? (i := 9) rfl))) Via.refl e12 F_limit (g := (mkF m 37 #[.val (.ref a1), .val (.long now), .second, .unset, .unset] [(.ref a1), (.int c_)])) rfl rfl (hb hby d4_37)
      have pw14 : ∀ t, Steps p.tables e below (T13.setTop (mkF m 40 #[.val (.ref a1), .val (.long now), .second, .unset, .unset] [(.int l_), (.int c_)])) t → Steps p.tables e below (s₁.setTop (entryFrame m #[(.ref a1), (.long now)] 5)) t := by
        intro t k
        refine pw10 t ?_
        refine XS.ifYes X9.here hx rfl (pc0 := 17) (pc' := 32) rfl (hb hby d4_17) rfl ((if0 _ _).trans (tlt ((lw_lt (now - o_) (1000000000 : Int64)).2 hc11)).1) (by decide) (by decide) ?_
        show Steps p.tables e below (T9.setTop (mkF m 32 #[.val (.ref a1), .val (.long now), .second, .unset, .unset] [])) _
        refine XS.aloadN X9.here hx rfl (hb hby d4_32) rfl rfl ?_
        show Steps p.tables e below (T9.setTop (mkF m 33 #[.val (.ref a1), .val (.long now), .second, .unset, .unset] [(.ref a1)])) _
        refine st12 _ ?_
        show Steps p.tables e below (T12.setTop (mkF m 36 #[.val (.ref a1), .val (.long now), .second, .unset, .unset] [(.int c_)])) _
        refine XS.aloadN X12.here hx rfl (hb hby d4_36) rfl rfl ?_
        show Steps p.tables e below (T12.setTop (mkF m 37 #[.val (.ref a1), .val (.long now), .second, .unset, .unset] [(.ref a1), (.int c_)])) _
        refine st13 _ ?_
        show Steps p.tables e below (T13.setTop (mkF m 40 #[.val (.ref a1), .val (.long now), .second, .unset, .unset] [(.int l_), (.int c_)])) _
        exact k
      by_cases hc15 : c_ < l_
      · skip
        obtain ⟨T16, X16, e16, st16⟩ := getF X13 hx hZ hown (host := "") (Or.inl (hw _ (List.mem_of_getElem? (i := 23) rfl))) Via.refl e13 F_accepted (g := (mkF m 45 #[.val (.ref a1), .val (.long now), .second, .unset, .unset] [(.ref a1), (.ref a1)])) rfl rfl (hb hby d4_45)
        obtain ⟨T17, h17, X17, e17, W17, st17⟩ := putF X16 hx hZ hown (host := "") (Or.inl (hw _ (List.mem_of_getElem? (i := 23) rfl))) Via.refl e16 F_accepted E_a1 (Or.inl (hw _ (List.mem_of_getElem? (i := 24) rfl))) (hw _ (List.mem_of_getElem? (i := 1) rfl)) (ty := .int) (by decide) rfl rfl (g := (mkF m 50 #[.val (.ref a1), .val (.long now), .second, .unset, .unset] [(.int (c_ + (1 : Int32))), (.ref a1)])) rfl rfl (hb hby d4_50)
        have Fw17 := F_accepted.same W17
        have K17 : Keep h0 h17 [a1] := K0.wr W17 (Or.inl (List.mem_of_getElem? (i := 0) rfl))
        have N17 := Fr.snoc X17 N0 g_a1
        have Z17 : n0 ≤ h17.size := (Nat.le_trans Z0 (Nat.le_of_eq (Wr.size W17).symm))
        obtain ⟨fs, hr, hrun, hended, hW, hsame⟩ := X17.leave (v := some (.int (0 : Int32))) (fun h => by rw [Bd.returns] at h; cases h)
        refine ⟨_, _, pw14 _ ?_, hrun, hended, _, _, rfl, ?_, ⟨_, rfl⟩, hW, hsame.mono (by decide) (by decide)⟩
        · skip
          refine XS.icmpNo X13.here hx rfl (hb hby d4_40) rfl (tlt hc15).2.1 ?_
          show Steps p.tables e below (T13.setTop (mkF m 43 #[.val (.ref a1), .val (.long now), .second, .unset, .unset] [])) _
          refine XS.aloadN X13.here hx rfl (hb hby d4_43) rfl rfl ?_
          show Steps p.tables e below (T13.setTop (mkF m 44 #[.val (.ref a1), .val (.long now), .second, .unset, .unset] [(.ref a1)])) _
          refine XS.dup X13.here hx rfl (hb hby d4_44) rfl rfl ?_
          show Steps p.tables e below (T13.setTop (mkF m 45 #[.val (.ref a1), .val (.long now), .second, .unset, .unset] [(.ref a1), (.ref a1)])) _
          refine st16 _ ?_
          show Steps p.tables e below (T16.setTop (mkF m 48 #[.val (.ref a1), .val (.long now), .second, .unset, .unset] [(.int c_), (.ref a1)])) _
          refine XS.iconst X16.here hx rfl (hb hby d4_48) ?_
          show Steps p.tables e below (T16.setTop (mkF m 49 #[.val (.ref a1), .val (.long now), .second, .unset, .unset] [(.int (1 : Int32)), (.int c_), (.ref a1)])) _
          refine XS.iadd X16.here hx rfl (hb hby d4_49) rfl ?_
          show Steps p.tables e below (T16.setTop (mkF m 50 #[.val (.ref a1), .val (.long now), .second, .unset, .unset] [(.int (c_ + (1 : Int32))), (.ref a1)])) _
          refine st17 _ ?_
          show Steps p.tables e below (T17.setTop (mkF m 53 #[.val (.ref a1), .val (.long now), .second, .unset, .unset] [])) _
          refine XS.iconst X17.here hx rfl (hb hby d4_53) ?_
          show Steps p.tables e below (T17.setTop (mkF m 54 #[.val (.ref a1), .val (.long now), .second, .unset, .unset] [(.int (0 : Int32))])) _
          exact retI X17 hx Bd.returns (hb hby d4_54) hr
        · show Q_4 Z a1 now o_ c_ l_ o' c' r h0 n0 _ T17.heap _
          rw [e17]
          have hh2 := hsp
          unfold own_admit at hh2
          rw [if_neg hc5, if_pos hc11, if_pos hc15] at hh2
          cases hh2
          exact ⟨rfl, N17, K17, (E_a1.wr W17), (F_limit.other W17 (Or.inr (slot_ne (Or.inr (hw _ (List.mem_of_getElem? (i := 10) rfl))) (Or.inl (hw _ (List.mem_of_getElem? (i := 24) rfl))) (by decide) (t := .int) (t' := .int) (by decide) (by decide)))), (F_opened.other W17 (Or.inr (slot_ne (Or.inl (hw _ (List.mem_of_getElem? (i := 26) rfl))) (Or.inl (hw _ (List.mem_of_getElem? (i := 24) rfl))) (by decide) (t := .long) (t' := .int) (by decide) (by decide)))), Fw17⟩
      · skip
        obtain ⟨T18, X18, e18, st18⟩ := getF X13 hx hZ hown (host := "") (Or.inl (hw _ (List.mem_of_getElem? (i := 25) rfl))) Via.refl e13 F_opened (g := (mkF m 56 #[.val (.ref a1), .val (.long now), .second, .unset, .unset] [(.ref a1)])) rfl rfl (hb hby d4_56)
        obtain ⟨T19, X19, e19, st19⟩ := getS2 X18 hx hZ hown (host := "") (Or.inl (hw _ (List.mem_of_getElem? (i := 30) rfl))) Via.refl e18 S_L (g := (mkF m 59 #[.val (.ref a1), .val (.long now), .second, .unset, .unset] [(.long o_)])) rfl (hb hby d4_59)
        obtain ⟨T20, X20, e20, st20⟩ := getS2 X19 hx hZ hown (host := "") (Or.inl (hw _ (List.mem_of_getElem? (i := 32) rfl))) Via.refl e19 S_N (g := (mkF m 67 #[.val (.ref a1), .val (.long now), .second, .val (.long ((o_ + (1000000000 : Int64)) - now)), .second] [(.long ((o_ + (1000000000 : Int64)) - now))])) rfl (hb hby d4_67)
        obtain ⟨T21, X21, e21, st21⟩ := getS2 X20 hx hZ hown (host := "") (Or.inl (hw _ (List.mem_of_getElem? (i := 32) rfl))) Via.refl e20 S_N (g := (mkF m 73 #[.val (.ref a1), .val (.long now), .second, .val (.long ((o_ + (1000000000 : Int64)) - now)), .second] [(.long ((((o_ + (1000000000 : Int64)) - now) + (1000000 : Int64)) - (1 : Int64)))])) rfl (hb hby d4_73)
        obtain ⟨fs, hr, hrun, hended, hW, hsame⟩ := X21.leave (v := some (.int ((((((o_ + (1000000000 : Int64)) - now) + (1000000 : Int64)) - (1 : Int64)) / (1000000 : Int64)).toInt32))) (fun h => by rw [Bd.returns] at h; cases h)
        refine ⟨_, _, pw14 _ ?_, hrun, hended, _, _, rfl, ?_, ⟨_, rfl⟩, hW, hsame.mono (by decide) (by decide)⟩
        · skip
          refine XS.icmpYes X13.here hx rfl (pc0 := 40) (pc' := 55) rfl (hb hby d4_40) rfl (flt hc15).2.1 (by decide) (by decide) ?_
          show Steps p.tables e below (T13.setTop (mkF m 55 #[.val (.ref a1), .val (.long now), .second, .unset, .unset] [])) _
          refine XS.aloadN X13.here hx rfl (hb hby d4_55) rfl rfl ?_
          show Steps p.tables e below (T13.setTop (mkF m 56 #[.val (.ref a1), .val (.long now), .second, .unset, .unset] [(.ref a1)])) _
          refine st18 _ ?_
          show Steps p.tables e below (T18.setTop (mkF m 59 #[.val (.ref a1), .val (.long now), .second, .unset, .unset] [(.long o_)])) _
          refine st19 _ ?_
          show Steps p.tables e below (T19.setTop (mkF m 62 #[.val (.ref a1), .val (.long now), .second, .unset, .unset] [(.long (1000000000 : Int64)), (.long o_)])) _
          refine XS.ladd X19.here hx rfl (hb hby d4_62) rfl ?_
          show Steps p.tables e below (T19.setTop (mkF m 63 #[.val (.ref a1), .val (.long now), .second, .unset, .unset] [(.long (o_ + (1000000000 : Int64)))])) _
          refine XS.lloadN X19.here hx rfl (hb hby d4_63) rfl ?_
          show Steps p.tables e below (T19.setTop (mkF m 64 #[.val (.ref a1), .val (.long now), .second, .unset, .unset] [(.long now), (.long (o_ + (1000000000 : Int64)))])) _
          refine XS.lsub X19.here hx rfl (hb hby d4_64) rfl ?_
          show Steps p.tables e below (T19.setTop (mkF m 65 #[.val (.ref a1), .val (.long now), .second, .unset, .unset] [(.long ((o_ + (1000000000 : Int64)) - now))])) _
          refine XS.lstoreN X19.here hx rfl (hb hby d4_65) rfl (l' := #[.val (.ref a1), .val (.long now), .second, .val (.long ((o_ + (1000000000 : Int64)) - now)), .second]) rfl ?_
          show Steps p.tables e below (T19.setTop (mkF m 66 #[.val (.ref a1), .val (.long now), .second, .val (.long ((o_ + (1000000000 : Int64)) - now)), .second] [])) _
          refine XS.lloadN X19.here hx rfl (hb hby d4_66) rfl ?_
          show Steps p.tables e below (T19.setTop (mkF m 67 #[.val (.ref a1), .val (.long now), .second, .val (.long ((o_ + (1000000000 : Int64)) - now)), .second] [(.long ((o_ + (1000000000 : Int64)) - now))])) _
          refine st20 _ ?_
          show Steps p.tables e below (T20.setTop (mkF m 70 #[.val (.ref a1), .val (.long now), .second, .val (.long ((o_ + (1000000000 : Int64)) - now)), .second] [(.long (1000000 : Int64)), (.long ((o_ + (1000000000 : Int64)) - now))])) _
          refine XS.ladd X20.here hx rfl (hb hby d4_70) rfl ?_
          show Steps p.tables e below (T20.setTop (mkF m 71 #[.val (.ref a1), .val (.long now), .second, .val (.long ((o_ + (1000000000 : Int64)) - now)), .second] [(.long (((o_ + (1000000000 : Int64)) - now) + (1000000 : Int64)))])) _
          refine XS.lconst X20.here hx rfl (hb hby d4_71) ?_
          show Steps p.tables e below (T20.setTop (mkF m 72 #[.val (.ref a1), .val (.long now), .second, .val (.long ((o_ + (1000000000 : Int64)) - now)), .second] [(.long (1 : Int64)), (.long (((o_ + (1000000000 : Int64)) - now) + (1000000 : Int64)))])) _
          refine XS.lsub X20.here hx rfl (hb hby d4_72) rfl ?_
          show Steps p.tables e below (T20.setTop (mkF m 73 #[.val (.ref a1), .val (.long now), .second, .val (.long ((o_ + (1000000000 : Int64)) - now)), .second] [(.long ((((o_ + (1000000000 : Int64)) - now) + (1000000 : Int64)) - (1 : Int64)))])) _
          refine st21 _ ?_
          show Steps p.tables e below (T21.setTop (mkF m 76 #[.val (.ref a1), .val (.long now), .second, .val (.long ((o_ + (1000000000 : Int64)) - now)), .second] [(.long (1000000 : Int64)), (.long ((((o_ + (1000000000 : Int64)) - now) + (1000000 : Int64)) - (1 : Int64)))])) _
          refine XS.ldiv X21.here hx rfl (hb hby d4_76) rfl (by decide) ?_
          show Steps p.tables e below (T21.setTop (mkF m 77 #[.val (.ref a1), .val (.long now), .second, .val (.long ((o_ + (1000000000 : Int64)) - now)), .second] [(.long (((((o_ + (1000000000 : Int64)) - now) + (1000000 : Int64)) - (1 : Int64)) / (1000000 : Int64)))])) _
          refine XS.l2i X21.here hx rfl (hb hby d4_77) rfl ?_
          show Steps p.tables e below (T21.setTop (mkF m 78 #[.val (.ref a1), .val (.long now), .second, .val (.long ((o_ + (1000000000 : Int64)) - now)), .second] [(.int ((((((o_ + (1000000000 : Int64)) - now) + (1000000 : Int64)) - (1 : Int64)) / (1000000 : Int64)).toInt32))])) _
          exact retI X21 hx Bd.returns (hb hby d4_78) hr
        · show Q_4 Z a1 now o_ c_ l_ o' c' r h0 n0 _ T21.heap _
          rw [e21]
          have hh2 := hsp
          unfold own_admit at hh2
          rw [if_neg hc5, if_pos hc11, if_neg hc15] at hh2
          cases hh2
          exact ⟨rfl, N0, K0, E_a1, F_limit, F_opened, F_accepted⟩
    · skip
      obtain ⟨T22, h22, X22, e22, W22, st22⟩ := putF X9 hx hZ hown (host := "") (Or.inl (hw _ (List.mem_of_getElem? (i := 25) rfl))) Via.refl e9 F_opened E_a1 (Or.inl (hw _ (List.mem_of_getElem? (i := 26) rfl))) (hw _ (List.mem_of_getElem? (i := 1) rfl)) (ty := .long) (by decide) rfl rfl (g := (mkF m 22 #[.val (.ref a1), .val (.long now), .second, .unset, .unset] [(.long now), (.ref a1)])) rfl rfl (hb hby d4_22)
      have Fw22 := F_opened.same W22
      have K22 : Keep h0 h22 [a1] := K0.wr W22 (Or.inl (List.mem_of_getElem? (i := 0) rfl))
      have N22 := Fr.snoc X22 N0 g_a1
      have Z22 : n0 ≤ h22.size := (Nat.le_trans Z0 (Nat.le_of_eq (Wr.size W22).symm))
      obtain ⟨T23, h23, X23, e23, W23, st23⟩ := putF X22 hx hZ hown (host := "") (Or.inl (hw _ (List.mem_of_getElem? (i := 23) rfl))) Via.refl e22 (F_accepted.other W22 (Or.inr (slot_ne (Or.inl (hw _ (List.mem_of_getElem? (i := 24) rfl))) (Or.inl (hw _ (List.mem_of_getElem? (i := 26) rfl))) (by decide) (t := .int) (t' := .long) (by decide) (by decide)))) (E_a1.wr W22) (Or.inl (hw _ (List.mem_of_getElem? (i := 24) rfl))) (hw _ (List.mem_of_getElem? (i := 1) rfl)) (ty := .int) (by decide) rfl rfl (g := (mkF m 27 #[.val (.ref a1), .val (.long now), .second, .unset, .unset] [(.int (1 : Int32)), (.ref a1)])) rfl rfl (hb hby d4_27)
      have Fw23 := (F_accepted.other W22 (Or.inr (slot_ne (Or.inl (hw _ (List.mem_of_getElem? (i := 24) rfl))) (Or.inl (hw _ (List.mem_of_getElem? (i := 26) rfl))) (by decide) (t := .int) (t' := .long) (by decide) (by decide)))).same W23
      have K23 : Keep h0 h23 [a1] := K22.wr W23 (Or.inl (List.mem_of_getElem? (i := 0) rfl))
      have N23 := Fr.snoc X23 N22 g_a1
      have Z23 : n0 ≤ h23.size := (Nat.le_trans Z22 (Nat.le_of_eq (Wr.size W23).symm))
      obtain ⟨fs, hr, hrun, hended, hW, hsame⟩ := X23.leave (v := some (.int (0 : Int32))) (fun h => by rw [Bd.returns] at h; cases h)
      refine ⟨_, _, pw10 _ ?_, hrun, hended, _, _, rfl, ?_, ⟨_, rfl⟩, hW, hsame.mono (by decide) (by decide)⟩
      · skip
        refine XS.ifNo X9.here hx rfl (hb hby d4_17) rfl ((if0 _ _).trans (flt (mt (lw_lt (now - o_) (1000000000 : Int64)).1 hc11)).1) ?_
        show Steps p.tables e below (T9.setTop (mkF m 20 #[.val (.ref a1), .val (.long now), .second, .unset, .unset] [])) _
        refine XS.aloadN X9.here hx rfl (hb hby d4_20) rfl rfl ?_
        show Steps p.tables e below (T9.setTop (mkF m 21 #[.val (.ref a1), .val (.long now), .second, .unset, .unset] [(.ref a1)])) _
        refine XS.lloadN X9.here hx rfl (hb hby d4_21) rfl ?_
        show Steps p.tables e below (T9.setTop (mkF m 22 #[.val (.ref a1), .val (.long now), .second, .unset, .unset] [(.long now), (.ref a1)])) _
        refine st22 _ ?_
        show Steps p.tables e below (T22.setTop (mkF m 25 #[.val (.ref a1), .val (.long now), .second, .unset, .unset] [])) _
        refine XS.aloadN X22.here hx rfl (hb hby d4_25) rfl rfl ?_
        show Steps p.tables e below (T22.setTop (mkF m 26 #[.val (.ref a1), .val (.long now), .second, .unset, .unset] [(.ref a1)])) _
        refine XS.iconst X22.here hx rfl (hb hby d4_26) ?_
        show Steps p.tables e below (T22.setTop (mkF m 27 #[.val (.ref a1), .val (.long now), .second, .unset, .unset] [(.int (1 : Int32)), (.ref a1)])) _
        refine st23 _ ?_
        show Steps p.tables e below (T23.setTop (mkF m 30 #[.val (.ref a1), .val (.long now), .second, .unset, .unset] [])) _
        refine XS.iconst X23.here hx rfl (hb hby d4_30) ?_
        show Steps p.tables e below (T23.setTop (mkF m 31 #[.val (.ref a1), .val (.long now), .second, .unset, .unset] [(.int (0 : Int32))])) _
        exact retI X23 hx Bd.returns (hb hby d4_31) hr
      · show Q_4 Z a1 now o_ c_ l_ o' c' r h0 n0 _ T23.heap _
        rw [e23]
        have hh2 := hsp
        unfold own_admit at hh2
        rw [if_neg hc5, if_neg hc11] at hh2
        cases hh2
        exact ⟨rfl, N23, K23, ((E_a1.wr W22).wr W23), ((F_limit.other W22 (Or.inr (slot_ne (Or.inr (hw _ (List.mem_of_getElem? (i := 10) rfl))) (Or.inl (hw _ (List.mem_of_getElem? (i := 26) rfl))) (by decide) (t := .int) (t' := .long) (by decide) (by decide)))).other W23 (Or.inr (slot_ne (Or.inr (hw _ (List.mem_of_getElem? (i := 10) rfl))) (Or.inl (hw _ (List.mem_of_getElem? (i := 24) rfl))) (by decide) (t := .int) (t' := .int) (by decide) (by decide)))), (Fw22.other W23 (Or.inr (slot_ne (Or.inl (hw _ (List.mem_of_getElem? (i := 26) rfl))) (Or.inl (hw _ (List.mem_of_getElem? (i := 24) rfl))) (by decide) (t := .long) (t' := .int) (by decide) (by decide)))), Fw23⟩
theorem d5_0 : decode method_3_code 0 = .ok (.aload_n 1, 1) := by decide +kernel
theorem d5_1 : decode method_3_code 1 = .ok (.iconst 0, 1) := by decide +kernel
theorem d5_2 : decode method_3_code 2 = .ok (.laload, 1) := by decide +kernel
theorem d5_3 : decode method_3_code 3 = .ok (.lload 4, 2) := by decide +kernel
theorem d5_5 : decode method_3_code 5 = .ok (.ladd, 1) := by decide +kernel
theorem d5_6 : decode method_3_code 6 = .ok (.lstore 7, 2) := by decide +kernel
theorem d5_8 : decode method_3_code 8 = .ok (.aload_n 0, 1) := by decide +kernel
theorem d5_9 : decode method_3_code 9 = .ok (.lload_n 2, 1) := by decide +kernel
theorem d5_10 : decode method_3_code 10 = .ok (.invokevirtual 9, 3) := by decide +kernel
theorem d5_13 : decode method_3_code 13 = .ok (.istore 9, 2) := by decide +kernel
theorem d5_15 : decode method_3_code 15 = .ok (.lload 7, 2) := by decide +kernel
theorem d5_17 : decode method_3_code 17 = .ok (.ldc2_w 15, 3) := by decide +kernel
theorem d5_20 : decode method_3_code 20 = .ok (.lcmp, 1) := by decide +kernel
theorem d5_21 : decode method_3_code 21 = .ok (.ifCond .lt 22, 3) := by decide +kernel
theorem d5_24 : decode method_3_code 24 = .ok (.aload_n 1, 1) := by decide +kernel
theorem d5_25 : decode method_3_code 25 = .ok (.iconst 0, 1) := by decide +kernel
theorem d5_26 : decode method_3_code 26 = .ok (.lconst 0, 1) := by decide +kernel
theorem d5_27 : decode method_3_code 27 = .ok (.lastore, 1) := by decide +kernel
theorem d5_28 : decode method_3_code 28 = .ok (.aload_n 1, 1) := by decide +kernel
theorem d5_29 : decode method_3_code 29 = .ok (.iconst 1, 1) := by decide +kernel
theorem d5_30 : decode method_3_code 30 = .ok (.lconst 1, 1) := by decide +kernel
theorem d5_31 : decode method_3_code 31 = .ok (.lastore, 1) := by decide +kernel
theorem d5_32 : decode method_3_code 32 = .ok (.iload 9, 2) := by decide +kernel
theorem d5_34 : decode method_3_code 34 = .ok (.ifCond .ne 7, 3) := by decide +kernel
theorem d5_37 : decode method_3_code 37 = .ok (.iconst 1, 1) := by decide +kernel
theorem d5_38 : decode method_3_code 38 = .ok (.goto 4, 3) := by decide +kernel
theorem d5_42 : decode method_3_code 42 = .ok (.ireturn, 1) := by decide +kernel
theorem d5_43 : decode method_3_code 43 = .ok (.aload_n 1, 1) := by decide +kernel
theorem d5_44 : decode method_3_code 44 = .ok (.iconst 1, 1) := by decide +kernel
theorem d5_45 : decode method_3_code 45 = .ok (.laload, 1) := by decide +kernel
theorem d5_46 : decode method_3_code 46 = .ok (.iload 6, 2) := by decide +kernel
theorem d5_48 : decode method_3_code 48 = .ok (.i2l, 1) := by decide +kernel
theorem d5_49 : decode method_3_code 49 = .ok (.lcmp, 1) := by decide +kernel
theorem d5_50 : decode method_3_code 50 = .ok (.ifCond .ge 27, 3) := by decide +kernel
theorem d5_53 : decode method_3_code 53 = .ok (.aload_n 1, 1) := by decide +kernel
theorem d5_54 : decode method_3_code 54 = .ok (.iconst 0, 1) := by decide +kernel
theorem d5_55 : decode method_3_code 55 = .ok (.lload 7, 2) := by decide +kernel
theorem d5_57 : decode method_3_code 57 = .ok (.lastore, 1) := by decide +kernel
theorem d5_58 : decode method_3_code 58 = .ok (.aload_n 1, 1) := by decide +kernel
theorem d5_59 : decode method_3_code 59 = .ok (.iconst 1, 1) := by decide +kernel
theorem d5_60 : decode method_3_code 60 = .ok (.aload_n 1, 1) := by decide +kernel
theorem d5_61 : decode method_3_code 61 = .ok (.iconst 1, 1) := by decide +kernel
theorem d5_62 : decode method_3_code 62 = .ok (.laload, 1) := by decide +kernel
theorem d5_63 : decode method_3_code 63 = .ok (.lconst 1, 1) := by decide +kernel
theorem d5_64 : decode method_3_code 64 = .ok (.ladd, 1) := by decide +kernel
theorem d5_65 : decode method_3_code 65 = .ok (.lastore, 1) := by decide +kernel
theorem d5_66 : decode method_3_code 66 = .ok (.iload 9, 2) := by decide +kernel
theorem d5_68 : decode method_3_code 68 = .ok (.ifCond .ne 7, 3) := by decide +kernel
theorem d5_71 : decode method_3_code 71 = .ok (.iconst 1, 1) := by decide +kernel
theorem d5_72 : decode method_3_code 72 = .ok (.goto 4, 3) := by decide +kernel
theorem d5_76 : decode method_3_code 76 = .ok (.ireturn, 1) := by decide +kernel
theorem d5_77 : decode method_3_code 77 = .ok (.aload_n 1, 1) := by decide +kernel
theorem d5_78 : decode method_3_code 78 = .ok (.iconst 0, 1) := by decide +kernel
theorem d5_79 : decode method_3_code 79 = .ok (.lload 7, 2) := by decide +kernel
theorem d5_81 : decode method_3_code 81 = .ok (.lastore, 1) := by decide +kernel
theorem d5_82 : decode method_3_code 82 = .ok (.iload 9, 2) := by decide +kernel
theorem d5_84 : decode method_3_code 84 = .ok (.sipush 1000, 3) := by decide +kernel
theorem d5_87 : decode method_3_code 87 = .ok (.lload 7, 2) := by decide +kernel
theorem d5_89 : decode method_3_code 89 = .ok (.ldc2_w 17, 3) := by decide +kernel
theorem d5_92 : decode method_3_code 92 = .ok (.ldiv, 1) := by decide +kernel
theorem d5_93 : decode method_3_code 93 = .ok (.l2i, 1) := by decide +kernel
theorem d5_94 : decode method_3_code 94 = .ok (.isub, 1) := by decide +kernel
theorem d5_95 : decode method_3_code 95 = .ok (.if_icmp .ne 7, 3) := by decide +kernel
theorem d5_98 : decode method_3_code 98 = .ok (.iconst 1, 1) := by decide +kernel
theorem d5_99 : decode method_3_code 99 = .ok (.goto 4, 3) := by decide +kernel
theorem d5_103 : decode method_3_code 103 = .ok (.ireturn, 1) := by decide +kernel
theorem ef_5 (m : MethodId) (x0 : Addr) (x1 : Addr) (x2 : Int64) (x3 : Int64) (x4 : Int32) : entryFrame m #[(.ref x0), (.ref x1), (.long x2), (.long x3), (.int x4)] 10 = mkF m 0 #[.val (.ref x0), .val (.ref x1), .val (.long x2), .second, .val (.long x3), .second, .val (.int x4), .unset, .unset, .unset] [] := by first | (simp [entryFrame, mkF, argsToLocals, Value.category]; done) | rfl
def Q_5 (Z : State) (aw : Addr) (ar : Addr) (now : Int64) (gp : Int64) (l_ : Int32) (pn o_ : Int64) (c_ : Int32) (e_ cc : Int64) (kk : ClassId) (h0 : Heap) (n0 : Nat) (v : Option Value) (h : Heap) (L : List Loc) : Prop := ∃ (o2 : Int64) (c2 : Int32) (e2 cc2 : Int64), v = some (.int 1) ∧ Fr n0 L ∧ Keep h0 h [aw, ar] ∧ Exa Z h aw "com/example/gated_chorus/gatedchorus/limit/Window" ∧ Fld Z h aw "com/example/gated_chorus/gatedchorus/limit/Window" "limit" "I" (.int l_) ∧ Fld Z h aw "com/example/gated_chorus/gatedchorus/limit/Window" "opened" "J" (.long o2) ∧ Fld Z h aw "com/example/gated_chorus/gatedchorus/limit/Window" "accepted" "I" (.int c2) ∧ Arv Z h ar kk .long (2 : Int32) [(.long e2), (.long cc2)] (.long (0 : Int64)) ∧ own_inv now o2 c2 l_ e2 cc2
set_option maxRecDepth 65536 in
set_option maxHeartbeats 40000000 in
theorem rm_5 (l : Launch) (Z : State) (a0 : Array Value) (hw : ∀ d ∈ tables_1, d.before a0 Z = true) (ws : List Jvm.Cond) (aw : Addr) (ar : Addr) (now : Int64) (gp : Int64) (l_ : Int32) (pn o_ : Int64) (c_ : Int32) (e_ cc : Int64) (kk : ClassId) (h0 : Heap) (n0 : Nat) (Z0 : n0 ≤ h0.size) (S_L : Sta Z h0 "com/example/gated_chorus/gatedchorus/limit/Window" "LENGTH_NS" "J" (.long (1000000000 : Int64))) (S_N : Sta Z h0 "com/example/gated_chorus/gatedchorus/limit/Window" "NS_PER_MS" "J" (.long (1000000 : Int64))) (E_aw : Exa Z h0 aw "com/example/gated_chorus/gatedchorus/limit/Window") (F_limit : Fld Z h0 aw "com/example/gated_chorus/gatedchorus/limit/Window" "limit" "I" (.int l_)) (F_opened : Fld Z h0 aw "com/example/gated_chorus/gatedchorus/limit/Window" "opened" "J" (.long o_)) (F_accepted : Fld Z h0 aw "com/example/gated_chorus/gatedchorus/limit/Window" "accepted" "I" (.int c_)) (V_ar : Arv Z h0 ar kk .long (2 : Int32) [(.long e_), (.long cc)] (.long (0 : Int64))) (g_aw : n0 ≤ aw) (g_ar : n0 ≤ ar) (hne : aw ≠ ar) (hI : own_inv pn o_ c_ l_ e_ cc) (hnow : now = pn + gp) (hg1 : 0 ≤ gp.toInt) (hg2 : gp.toInt ≤ 1500000000) :
    MetFree l (⟨"com/example/gated_chorus/gatedchorus/limit/WindowAdmitPinLaw", "step", "(Lcom/example/gated_chorus/gatedchorus/limit/Window;[JJJI)Z"⟩ : MethodName) (head1 (Jvm.Cond.code (⟨"com/example/gated_chorus/gatedchorus/limit/WindowAdmitPinLaw", "step", "(Lcom/example/gated_chorus/gatedchorus/limit/Window;[JJJI)Z"⟩ : MethodName) method_3_code 10 (some .boolean) :: ws) ({ frames := 1, cells := 0, slots := 0, locals := 16 } : Room)) (fun a U => a = #[(.ref aw), (.ref ar), (.long now), (.long gp), (.int l_)] ∧ Z.Warmed39 U.vm ∧ U.heap = h0) (fun _ _ _ _ _ => True) (fun _ U o U' => ∃ v L, o = .returned v ∧ Q_5 Z aw ar now gp l_ pn o_ c_ e_ cc kk h0 n0 v U'.heap L ∧ FrameEnd U o U' L ({ frames := 1, cells := 0, slots := 0, locals := 16 } : Room).cells ({ frames := 1, cells := 0, slots := 0, locals := 16 } : Room).slots) := by
  refine MetFree.of_bodySF (plainFor_of_name pn_com_example_gated_chorus_gatedchorus_limit_WindowAdmitPinLaw) hisR ?_
  intro p e s m args below meth c s₁ Bd hml0 hP hK
  obtain ⟨rfl, hZ, hh⟩ := hP
  have hx := Bd.exec
  have hby := Bd.bytes
  have hml : c.maxLocals = 10 := hml0
  have hown : s.vm.findClass "com/example/gated_chorus/gatedchorus/limit/WindowAdmitPinLaw" = some m.cls := findClass_of_methodNamed Bd.named
  have hnm := (name_of_methodNamed Bd.named Bd.method).1
  have X0 : Stand p l e ({ frames := 1, cells := 0, slots := 0, locals := 16 } : Room) s m #[(.ref aw), (.ref ar), (.long now), (.long gp), (.int l_)] below meth c s₁ [] 0 0 := Stand.of_body Bd
  have e0 : s₁.heap = h0 := by rw [← hh, Bd.state]; rfl
  have N0 := Fr.nil n0
  have pw0 : ∀ t, Steps p.tables e below (s₁.setTop (mkF m 0 #[.val (.ref aw), .val (.ref ar), .val (.long now), .second, .val (.long gp), .second, .val (.int l_), .unset, .unset, .unset] [])) t → Steps p.tables e below (s₁.setTop (entryFrame m #[(.ref aw), (.ref ar), (.long now), (.long gp), (.int l_)] 10)) t := fun t k => castTop (ef_5 m aw ar now gp l_) k
  have K0 : Keep h0 h0 [aw, ar] := Keep.refl h0 [aw, ar]
  have hin : now - o_ = e_ + gp := own_in hI.1 hnow
  obtain ⟨c24, Arc24, qc24, Sc24, Mc24, Hsc24, Gc24⟩ := id V_ar
  have hinc24 : ¬ ((0 : Int32) < 0 ∨ c24.slots.size ≤ ((0 : Int32)).toNatClampNeg) := inb_of Sc24 ⟨by decide, by decide⟩
  have hatc24 : c24.slots[((0 : Int32)).toNatClampNeg]? = some (.long e_) := Hsc24.at hinc24 rfl
  have pw25 : ∀ t, Steps p.tables e below (s₁.setTop (mkF m 8 #[.val (.ref aw), .val (.ref ar), .val (.long now), .second, .val (.long gp), .second, .val (.int l_), .val (.long (e_ + gp)), .second, .unset] [])) t → Steps p.tables e below (s₁.setTop (entryFrame m #[(.ref aw), (.ref ar), (.long now), (.long gp), (.int l_)] 10)) t := by
    intro t k
    refine pw0 t ?_
    refine XS.aloadN X0.here hx rfl (hb hby d5_0) rfl rfl ?_
    show Steps p.tables e below (s₁.setTop (mkF m 1 #[.val (.ref aw), .val (.ref ar), .val (.long now), .second, .val (.long gp), .second, .val (.int l_), .unset, .unset, .unset] [(.ref ar)])) _
    refine XS.iconst X0.here hx rfl (hb hby d5_1) ?_
    show Steps p.tables e below (s₁.setTop (mkF m 2 #[.val (.ref aw), .val (.ref ar), .val (.long now), .second, .val (.long gp), .second, .val (.int l_), .unset, .unset, .unset] [(.int (0 : Int32)), (.ref ar)])) _
    refine X0.laload hx (j := (0 : Int32)) (v := (.long e_)) (by rw [e0]; exact Arc24.1) (State.isArrayOf_alike hZ.alike Arc24.2.1) Arc24.2.2 hinc24 hatc24 (g := (mkF m 2 #[.val (.ref aw), .val (.ref ar), .val (.long now), .second, .val (.long gp), .second, .val (.int l_), .unset, .unset, .unset] [(.int (0 : Int32)), (.ref ar)])) rfl rfl (hb hby d5_2) _ ?_
    show Steps p.tables e below (s₁.setTop (mkF m 3 #[.val (.ref aw), .val (.ref ar), .val (.long now), .second, .val (.long gp), .second, .val (.int l_), .unset, .unset, .unset] [(.long e_)])) _
    refine XS.lload X0.here hx rfl (hb hby d5_3) rfl ?_
    show Steps p.tables e below (s₁.setTop (mkF m 5 #[.val (.ref aw), .val (.ref ar), .val (.long now), .second, .val (.long gp), .second, .val (.int l_), .unset, .unset, .unset] [(.long gp), (.long e_)])) _
    refine XS.ladd X0.here hx rfl (hb hby d5_5) rfl ?_
    show Steps p.tables e below (s₁.setTop (mkF m 6 #[.val (.ref aw), .val (.ref ar), .val (.long now), .second, .val (.long gp), .second, .val (.int l_), .unset, .unset, .unset] [(.long (e_ + gp))])) _
    refine XS.lstore X0.here hx rfl (hb hby d5_6) rfl (l' := #[.val (.ref aw), .val (.ref ar), .val (.long now), .second, .val (.long gp), .second, .val (.int l_), .val (.long (e_ + gp)), .second, .unset]) rfl ?_
    exact k
  by_cases hf26 : (e_ + gp) < (1000000000 : Int64)
  · skip
    by_cases hf27 : c_ < l_
    · skip
      obtain ⟨cq28, kq28, q28a, q28b, q28c⟩ := isOf hZ e0 E_aw
      obtain ⟨_, _, ⟨T28, L28, k28, n28⟩, -, X28, ⟨Lc28, hQ28, l28, y28, z28⟩, st28⟩ := X0.virtualBack hx (y := (⟨"com/example/gated_chorus/gatedchorus/limit/Window", "admit", "(J)I"⟩ : MethodName)) (z := (⟨"com/example/gated_chorus/gatedchorus/limit/Window", "admit", "(J)I"⟩ : MethodName)) hown (mvT hZ (hw _ (List.mem_of_getElem? (i := 18) rfl))) (mvT hZ (hw _ (List.mem_of_getElem? (i := 19) rfl))) (notFace_of_selects (args := #[]) (mvT hZ (hw _ (List.mem_of_getElem? (i := 21) rfl)))) (mvT hZ (hw _ (List.mem_of_getElem? (i := 21) rfl))) (mvT hZ (hw _ (List.mem_of_getElem? (i := 20) rfl))) (by decide) (backOf (W := 0) (rm_4 l Z a0 hw [] aw now o_ c_ l_ o_ (c_ + (1 : Int32)) (0 : Int32) h0 n0 Z0 S_L S_N E_aw F_limit F_opened F_accepted g_aw (by unfold own_admit; rw [if_neg (own_c0 hI.2.2.2.1), if_pos (by rw [hin]; exact hf26 : now - o_ < (1000000000 : Int64)), if_pos hf27])) hZ (hw _ (List.mem_of_getElem? (i := 22) rfl)) (hw _ (List.mem_of_getElem? (i := 2) rfl)) (by decide) (by decide)) q28a q28c (g := (mkF m 10 #[.val (.ref aw), .val (.ref ar), .val (.long now), .second, .val (.long gp), .second, .val (.int l_), .val (.long (e_ + gp)), .second, .unset] [(.long now), (.ref aw)])) rfl (by rw [hml]; rfl) (Steps.refl _) (argsL := [(.long now)]) (rest := []) (lenOf pd__J_I rfl) rfl (by show 2 * 0 + _ ≤ _; exact Nat.le_of_eq rfl) (hb hby d5_10) (fun _ _ => ⟨rfl, e0, (by decide : 0 + 0 ≤ _), (by decide : 0 + 0 ≤ _)⟩)
      dsimp only [Pt.U, Pt.locs, Pt.cells, Pt.slots] at X28 l28 y28 z28 st28 hQ28
      subst l28 y28 z28
      obtain ⟨rfl, N28q, K28q, E28q, Fl28q, Fo28q, Fa28q⟩ := hQ28
      have N28 := Fr.app N0 N28q
      have S28_0 := own_staKeep S_L K28q (nsS (E_aw.nostat) ns0)
      have S28_1 := own_staKeep S_N K28q (nsS (E_aw.nostat) ns0)
      have K28 : Keep h0 T28.heap [aw, ar] := K0.trans K28q (allS (P := fun x => x ∈ [aw, ar] ∨ h0.size ≤ x) (Or.inl (List.mem_of_getElem? (i := 0) rfl)) all0)
      have Z28 : n0 ≤ T28.heap.size := (Nat.le_trans Z0 K28q.1)
      obtain ⟨c29, Arc29, qc29, Sc29, Mc29, Hsc29, Gc29⟩ := id (V_ar.keep K28q (ninS (Ne.symm hne) nin0))
      have hinc29 : ¬ ((1 : Int32) < 0 ∨ c29.slots.size ≤ ((1 : Int32)).toNatClampNeg) := inb_of Sc29 ⟨by decide, by decide⟩
      have hatc29 : c29.slots[((1 : Int32)).toNatClampNeg]? = some (.long cc) := Hsc29.at hinc29 rfl
      obtain ⟨c30, Arc30, qc30, Sc30, Mc30, Hsc30, Gc30⟩ := id (V_ar.keep K28q (ninS (Ne.symm hne) nin0))
      have hinc30 : ¬ ((0 : Int32) < 0 ∨ c30.slots.size ≤ ((0 : Int32)).toNatClampNeg) := inb_of Sc30 ⟨by decide, by decide⟩
      obtain ⟨T31, h31, X31, e31, W31, st31⟩ := stJ X28 hx hZ rfl Arc30 (j := (0 : Int32)) hinc30 (g := (mkF m 57 #[.val (.ref aw), .val (.ref ar), .val (.long now), .second, .val (.long gp), .second, .val (.int l_), .val (.long (e_ + gp)), .second, .val (.int (0 : Int32))] [(.long (e_ + gp)), (.int (0 : Int32)), (.ref ar)])) rfl rfl (hb hby d5_57)
      have V31 := Arv.set Arc30 qc30 Sc30 Mc30 Hsc30 Gc30 rfl W31 0 rfl (Nat.le_of_ble_eq_true rfl)
      have K31 : Keep h0 h31 [aw, ar] := K28.wr W31 (Or.inl (List.mem_of_getElem? (i := 1) rfl))
      have N31 := Fr.snoc X31 N28 g_ar
      have Z31 : n0 ≤ h31.size := (Nat.le_trans Z28 (Nat.le_of_eq (Wr.size W31).symm))
      obtain ⟨c32, Arc32, qc32, Sc32, Mc32, Hsc32, Gc32⟩ := id V31
      have hinc32 : ¬ ((1 : Int32) < 0 ∨ c32.slots.size ≤ ((1 : Int32)).toNatClampNeg) := inb_of Sc32 ⟨by decide, by decide⟩
      have hatc32 : c32.slots[((1 : Int32)).toNatClampNeg]? = some (.long cc) := Hsc32.at hinc32 rfl
      obtain ⟨c33, Arc33, qc33, Sc33, Mc33, Hsc33, Gc33⟩ := id V31
      have hinc33 : ¬ ((1 : Int32) < 0 ∨ c33.slots.size ≤ ((1 : Int32)).toNatClampNeg) := inb_of Sc33 ⟨by decide, by decide⟩
      obtain ⟨T34, h34, X34, e34, W34, st34⟩ := stJ X31 hx hZ e31 Arc33 (j := (1 : Int32)) hinc33 (g := (mkF m 65 #[.val (.ref aw), .val (.ref ar), .val (.long now), .second, .val (.long gp), .second, .val (.int l_), .val (.long (e_ + gp)), .second, .val (.int (0 : Int32))] [(.long (cc + (1 : Int64))), (.int (1 : Int32)), (.ref ar)])) rfl rfl (hb hby d5_65)
      have V34 := Arv.set Arc33 qc33 Sc33 Mc33 Hsc33 Gc33 rfl W34 1 rfl (Nat.le_of_ble_eq_true rfl)
      have K34 : Keep h0 h34 [aw, ar] := K31.wr W34 (Or.inl (List.mem_of_getElem? (i := 1) rfl))
      have N34 := Fr.snoc X34 N31 g_ar
      have Z34 : n0 ≤ h34.size := (Nat.le_trans Z31 (Nat.le_of_eq (Wr.size W34).symm))
      obtain ⟨fs, hr, hrun, hended, hW, hsame⟩ := X34.leave (v := some (.int (1 : Int32))) (fun h => by rw [Bd.returns] at h; cases h)
      refine ⟨_, _, pw25 _ ?_, hrun, hended, _, _, rfl, ?_, ⟨_, rfl⟩, hW, hsame.mono (by decide) (by decide)⟩
      · skip
        refine XS.aloadN X0.here hx rfl (hb hby d5_8) rfl rfl ?_
        show Steps p.tables e below (s₁.setTop (mkF m 9 #[.val (.ref aw), .val (.ref ar), .val (.long now), .second, .val (.long gp), .second, .val (.int l_), .val (.long (e_ + gp)), .second, .unset] [(.ref aw)])) _
        refine XS.lloadN X0.here hx rfl (hb hby d5_9) rfl ?_
        show Steps p.tables e below (s₁.setTop (mkF m 10 #[.val (.ref aw), .val (.ref ar), .val (.long now), .second, .val (.long gp), .second, .val (.int l_), .val (.long (e_ + gp)), .second, .unset] [(.long now), (.ref aw)])) _
        refine st28.trans ?_
        show Steps p.tables e below (T28.setTop (mkF m 13 #[.val (.ref aw), .val (.ref ar), .val (.long now), .second, .val (.long gp), .second, .val (.int l_), .val (.long (e_ + gp)), .second, .unset] [(.int (0 : Int32))])) _
        refine XS.istore X28.here hx rfl (hb hby d5_13) rfl (l' := #[.val (.ref aw), .val (.ref ar), .val (.long now), .second, .val (.long gp), .second, .val (.int l_), .val (.long (e_ + gp)), .second, .val (.int (0 : Int32))]) rfl ?_
        show Steps p.tables e below (T28.setTop (mkF m 15 #[.val (.ref aw), .val (.ref ar), .val (.long now), .second, .val (.long gp), .second, .val (.int l_), .val (.long (e_ + gp)), .second, .val (.int (0 : Int32))] [])) _
        refine XS.lload X28.here hx rfl (hb hby d5_15) rfl ?_
        show Steps p.tables e below (T28.setTop (mkF m 17 #[.val (.ref aw), .val (.ref ar), .val (.long now), .second, .val (.long gp), .second, .val (.int l_), .val (.long (e_ + gp)), .second, .val (.int (0 : Int32))] [(.long (e_ + gp))])) _
        refine X28.ldc2Long hx hown (mvT hZ (hw _ (List.mem_of_getElem? (i := 34) rfl))) (g := (mkF m 17 #[.val (.ref aw), .val (.ref ar), .val (.long now), .second, .val (.long gp), .second, .val (.int l_), .val (.long (e_ + gp)), .second, .val (.int (0 : Int32))] [(.long (e_ + gp))])) rfl (hb hby d5_17) _ ?_
        show Steps p.tables e below (T28.setTop (mkF m 20 #[.val (.ref aw), .val (.ref ar), .val (.long now), .second, .val (.long gp), .second, .val (.int l_), .val (.long (e_ + gp)), .second, .val (.int (0 : Int32))] [(.long (1000000000 : Int64)), (.long (e_ + gp))])) _
        refine XS.lcmp X28.here hx rfl (hb hby d5_20) rfl ?_
        show Steps p.tables e below (T28.setTop (mkF m 21 #[.val (.ref aw), .val (.ref ar), .val (.long now), .second, .val (.long gp), .second, .val (.int l_), .val (.long (e_ + gp)), .second, .val (.int (0 : Int32))] [(.int (lcmpW (e_ + gp) (1000000000 : Int64)))])) _
        refine XS.ifYes X28.here hx rfl (pc0 := 21) (pc' := 43) rfl (hb hby d5_21) rfl ((if0 _ _).trans (tlt ((lw_lt (e_ + gp) (1000000000 : Int64)).2 hf26)).1) (by decide) (by decide) ?_
        show Steps p.tables e below (T28.setTop (mkF m 43 #[.val (.ref aw), .val (.ref ar), .val (.long now), .second, .val (.long gp), .second, .val (.int l_), .val (.long (e_ + gp)), .second, .val (.int (0 : Int32))] [])) _
        refine XS.aloadN X28.here hx rfl (hb hby d5_43) rfl rfl ?_
        show Steps p.tables e below (T28.setTop (mkF m 44 #[.val (.ref aw), .val (.ref ar), .val (.long now), .second, .val (.long gp), .second, .val (.int l_), .val (.long (e_ + gp)), .second, .val (.int (0 : Int32))] [(.ref ar)])) _
        refine XS.iconst X28.here hx rfl (hb hby d5_44) ?_
        show Steps p.tables e below (T28.setTop (mkF m 45 #[.val (.ref aw), .val (.ref ar), .val (.long now), .second, .val (.long gp), .second, .val (.int l_), .val (.long (e_ + gp)), .second, .val (.int (0 : Int32))] [(.int (1 : Int32)), (.ref ar)])) _
        refine X28.laload hx (j := (1 : Int32)) (v := (.long cc)) Arc29.1 (State.isArrayOf_alike hZ.alike Arc29.2.1) Arc29.2.2 hinc29 hatc29 (g := (mkF m 45 #[.val (.ref aw), .val (.ref ar), .val (.long now), .second, .val (.long gp), .second, .val (.int l_), .val (.long (e_ + gp)), .second, .val (.int (0 : Int32))] [(.int (1 : Int32)), (.ref ar)])) rfl rfl (hb hby d5_45) _ ?_
        show Steps p.tables e below (T28.setTop (mkF m 46 #[.val (.ref aw), .val (.ref ar), .val (.long now), .second, .val (.long gp), .second, .val (.int l_), .val (.long (e_ + gp)), .second, .val (.int (0 : Int32))] [(.long cc)])) _
        refine XS.iload X28.here hx rfl (hb hby d5_46) rfl ?_
        show Steps p.tables e below (T28.setTop (mkF m 48 #[.val (.ref aw), .val (.ref ar), .val (.long now), .second, .val (.long gp), .second, .val (.int l_), .val (.long (e_ + gp)), .second, .val (.int (0 : Int32))] [(.int l_), (.long cc)])) _
        refine XS.i2l X28.here hx rfl (hb hby d5_48) rfl ?_
        show Steps p.tables e below (T28.setTop (mkF m 49 #[.val (.ref aw), .val (.ref ar), .val (.long now), .second, .val (.long gp), .second, .val (.int l_), .val (.long (e_ + gp)), .second, .val (.int (0 : Int32))] [(.long (l_.toInt64)), (.long cc)])) _
        refine XS.lcmp X28.here hx rfl (hb hby d5_49) rfl ?_
        show Steps p.tables e below (T28.setTop (mkF m 50 #[.val (.ref aw), .val (.ref ar), .val (.long now), .second, .val (.long gp), .second, .val (.int l_), .val (.long (e_ + gp)), .second, .val (.int (0 : Int32))] [(.int (lcmpW cc (l_.toInt64)))])) _
        refine XS.ifNo X28.here hx rfl (hb hby d5_50) rfl ((if0 _ _).trans (tlt ((lw_lt cc (l_.toInt64)).2 ((own_lt64 hI.2.2.2.2.2.2).2 hf27 : cc < (l_.toInt64)))).2.1) ?_
        show Steps p.tables e below (T28.setTop (mkF m 53 #[.val (.ref aw), .val (.ref ar), .val (.long now), .second, .val (.long gp), .second, .val (.int l_), .val (.long (e_ + gp)), .second, .val (.int (0 : Int32))] [])) _
        refine XS.aloadN X28.here hx rfl (hb hby d5_53) rfl rfl ?_
        show Steps p.tables e below (T28.setTop (mkF m 54 #[.val (.ref aw), .val (.ref ar), .val (.long now), .second, .val (.long gp), .second, .val (.int l_), .val (.long (e_ + gp)), .second, .val (.int (0 : Int32))] [(.ref ar)])) _
        refine XS.iconst X28.here hx rfl (hb hby d5_54) ?_
        show Steps p.tables e below (T28.setTop (mkF m 55 #[.val (.ref aw), .val (.ref ar), .val (.long now), .second, .val (.long gp), .second, .val (.int l_), .val (.long (e_ + gp)), .second, .val (.int (0 : Int32))] [(.int (0 : Int32)), (.ref ar)])) _
        refine XS.lload X28.here hx rfl (hb hby d5_55) rfl ?_
        show Steps p.tables e below (T28.setTop (mkF m 57 #[.val (.ref aw), .val (.ref ar), .val (.long now), .second, .val (.long gp), .second, .val (.int l_), .val (.long (e_ + gp)), .second, .val (.int (0 : Int32))] [(.long (e_ + gp)), (.int (0 : Int32)), (.ref ar)])) _
        refine st31 _ ?_
        show Steps p.tables e below (T31.setTop (mkF m 58 #[.val (.ref aw), .val (.ref ar), .val (.long now), .second, .val (.long gp), .second, .val (.int l_), .val (.long (e_ + gp)), .second, .val (.int (0 : Int32))] [])) _
        refine XS.aloadN X31.here hx rfl (hb hby d5_58) rfl rfl ?_
        show Steps p.tables e below (T31.setTop (mkF m 59 #[.val (.ref aw), .val (.ref ar), .val (.long now), .second, .val (.long gp), .second, .val (.int l_), .val (.long (e_ + gp)), .second, .val (.int (0 : Int32))] [(.ref ar)])) _
        refine XS.iconst X31.here hx rfl (hb hby d5_59) ?_
        show Steps p.tables e below (T31.setTop (mkF m 60 #[.val (.ref aw), .val (.ref ar), .val (.long now), .second, .val (.long gp), .second, .val (.int l_), .val (.long (e_ + gp)), .second, .val (.int (0 : Int32))] [(.int (1 : Int32)), (.ref ar)])) _
        refine XS.aloadN X31.here hx rfl (hb hby d5_60) rfl rfl ?_
        show Steps p.tables e below (T31.setTop (mkF m 61 #[.val (.ref aw), .val (.ref ar), .val (.long now), .second, .val (.long gp), .second, .val (.int l_), .val (.long (e_ + gp)), .second, .val (.int (0 : Int32))] [(.ref ar), (.int (1 : Int32)), (.ref ar)])) _
        refine XS.iconst X31.here hx rfl (hb hby d5_61) ?_
        show Steps p.tables e below (T31.setTop (mkF m 62 #[.val (.ref aw), .val (.ref ar), .val (.long now), .second, .val (.long gp), .second, .val (.int l_), .val (.long (e_ + gp)), .second, .val (.int (0 : Int32))] [(.int (1 : Int32)), (.ref ar), (.int (1 : Int32)), (.ref ar)])) _
        refine X31.laload hx (j := (1 : Int32)) (v := (.long cc)) (by rw [e31]; exact Arc32.1) (State.isArrayOf_alike hZ.alike Arc32.2.1) Arc32.2.2 hinc32 hatc32 (g := (mkF m 62 #[.val (.ref aw), .val (.ref ar), .val (.long now), .second, .val (.long gp), .second, .val (.int l_), .val (.long (e_ + gp)), .second, .val (.int (0 : Int32))] [(.int (1 : Int32)), (.ref ar), (.int (1 : Int32)), (.ref ar)])) rfl rfl (hb hby d5_62) _ ?_
        show Steps p.tables e below (T31.setTop (mkF m 63 #[.val (.ref aw), .val (.ref ar), .val (.long now), .second, .val (.long gp), .second, .val (.int l_), .val (.long (e_ + gp)), .second, .val (.int (0 : Int32))] [(.long cc), (.int (1 : Int32)), (.ref ar)])) _
        refine XS.lconst X31.here hx rfl (hb hby d5_63) ?_
        show Steps p.tables e below (T31.setTop (mkF m 64 #[.val (.ref aw), .val (.ref ar), .val (.long now), .second, .val (.long gp), .second, .val (.int l_), .val (.long (e_ + gp)), .second, .val (.int (0 : Int32))] [(.long (1 : Int64)), (.long cc), (.int (1 : Int32)), (.ref ar)])) _
        refine XS.ladd X31.here hx rfl (hb hby d5_64) rfl ?_
        show Steps p.tables e below (T31.setTop (mkF m 65 #[.val (.ref aw), .val (.ref ar), .val (.long now), .second, .val (.long gp), .second, .val (.int l_), .val (.long (e_ + gp)), .second, .val (.int (0 : Int32))] [(.long (cc + (1 : Int64))), (.int (1 : Int32)), (.ref ar)])) _
        refine st34 _ ?_
        show Steps p.tables e below (T34.setTop (mkF m 66 #[.val (.ref aw), .val (.ref ar), .val (.long now), .second, .val (.long gp), .second, .val (.int l_), .val (.long (e_ + gp)), .second, .val (.int (0 : Int32))] [])) _
        refine XS.iload X34.here hx rfl (hb hby d5_66) rfl ?_
        show Steps p.tables e below (T34.setTop (mkF m 68 #[.val (.ref aw), .val (.ref ar), .val (.long now), .second, .val (.long gp), .second, .val (.int l_), .val (.long (e_ + gp)), .second, .val (.int (0 : Int32))] [(.int (0 : Int32))])) _
        refine XS.ifNo X34.here hx rfl (hb hby d5_68) rfl ((if0 _ _).trans (teq (by decide : (0 : Int32) = (0 : Int32))).2) ?_
        show Steps p.tables e below (T34.setTop (mkF m 71 #[.val (.ref aw), .val (.ref ar), .val (.long now), .second, .val (.long gp), .second, .val (.int l_), .val (.long (e_ + gp)), .second, .val (.int (0 : Int32))] [])) _
        refine XS.iconst X34.here hx rfl (hb hby d5_71) ?_
        show Steps p.tables e below (T34.setTop (mkF m 72 #[.val (.ref aw), .val (.ref ar), .val (.long now), .second, .val (.long gp), .second, .val (.int l_), .val (.long (e_ + gp)), .second, .val (.int (0 : Int32))] [(.int (1 : Int32))])) _
        refine XS.goto X34.here hx rfl (pc0 := 72) (pc' := 76) rfl (hb hby d5_72) (by decide) (by decide) ?_
        show Steps p.tables e below (T34.setTop (mkF m 76 #[.val (.ref aw), .val (.ref ar), .val (.long now), .second, .val (.long gp), .second, .val (.int l_), .val (.long (e_ + gp)), .second, .val (.int (0 : Int32))] [(.int (1 : Int32))])) _
        exact retN X34 hx (t := .boolean) Bd.returns (by simp) (hb hby d5_76) hr
      · show Q_5 Z aw ar now gp l_ pn o_ c_ e_ cc kk h0 n0 _ T34.heap _
        rw [e34]
        exact ⟨o_, (c_ + (1 : Int32)), (e_ + gp), (cc + (1 : Int64)), rfl, N34, K34, ((E28q.wr W31).wr W34), ((Fl28q.other W31 (Or.inl hne)).other W34 (Or.inl hne)), ((Fo28q.other W31 (Or.inl hne)).other W34 (Or.inl hne)), ((Fa28q.other W31 (Or.inl hne)).other W34 (Or.inl hne)), V34, (own_inv2 hI hnow hg1 hg2 hf26 hf27)⟩
    · skip
      obtain ⟨cq35, kq35, q35a, q35b, q35c⟩ := isOf hZ e0 E_aw
      obtain ⟨_, _, ⟨T35, L35, k35, n35⟩, -, X35, ⟨Lc35, hQ35, l35, y35, z35⟩, st35⟩ := X0.virtualBack hx (y := (⟨"com/example/gated_chorus/gatedchorus/limit/Window", "admit", "(J)I"⟩ : MethodName)) (z := (⟨"com/example/gated_chorus/gatedchorus/limit/Window", "admit", "(J)I"⟩ : MethodName)) hown (mvT hZ (hw _ (List.mem_of_getElem? (i := 18) rfl))) (mvT hZ (hw _ (List.mem_of_getElem? (i := 19) rfl))) (notFace_of_selects (args := #[]) (mvT hZ (hw _ (List.mem_of_getElem? (i := 21) rfl)))) (mvT hZ (hw _ (List.mem_of_getElem? (i := 21) rfl))) (mvT hZ (hw _ (List.mem_of_getElem? (i := 20) rfl))) (by decide) (backOf (W := 0) (rm_4 l Z a0 hw [] aw now o_ c_ l_ o_ c_ ((((((o_ + (1000000000 : Int64)) - now) + (1000000 : Int64)) - (1 : Int64)) / (1000000 : Int64)).toInt32) h0 n0 Z0 S_L S_N E_aw F_limit F_opened F_accepted g_aw (by unfold own_admit; rw [if_neg (own_c0 hI.2.2.2.1), if_pos (by rw [hin]; exact hf26 : now - o_ < (1000000000 : Int64)), if_neg hf27])) hZ (hw _ (List.mem_of_getElem? (i := 22) rfl)) (hw _ (List.mem_of_getElem? (i := 2) rfl)) (by decide) (by decide)) q35a q35c (g := (mkF m 10 #[.val (.ref aw), .val (.ref ar), .val (.long now), .second, .val (.long gp), .second, .val (.int l_), .val (.long (e_ + gp)), .second, .unset] [(.long now), (.ref aw)])) rfl (by rw [hml]; rfl) (Steps.refl _) (argsL := [(.long now)]) (rest := []) (lenOf pd__J_I rfl) rfl (by show 2 * 0 + _ ≤ _; exact Nat.le_of_eq rfl) (hb hby d5_10) (fun _ _ => ⟨rfl, e0, (by decide : 0 + 0 ≤ _), (by decide : 0 + 0 ≤ _)⟩)
      dsimp only [Pt.U, Pt.locs, Pt.cells, Pt.slots] at X35 l35 y35 z35 st35 hQ35
      subst l35 y35 z35
      obtain ⟨rfl, N35q, K35q, E35q, Fl35q, Fo35q, Fa35q⟩ := hQ35
      have N35 := Fr.app N0 N35q
      have S35_0 := own_staKeep S_L K35q (nsS (E_aw.nostat) ns0)
      have S35_1 := own_staKeep S_N K35q (nsS (E_aw.nostat) ns0)
      have K35 : Keep h0 T35.heap [aw, ar] := K0.trans K35q (allS (P := fun x => x ∈ [aw, ar] ∨ h0.size ≤ x) (Or.inl (List.mem_of_getElem? (i := 0) rfl)) all0)
      have Z35 : n0 ≤ T35.heap.size := (Nat.le_trans Z0 K35q.1)
      obtain ⟨c36, Arc36, qc36, Sc36, Mc36, Hsc36, Gc36⟩ := id (V_ar.keep K35q (ninS (Ne.symm hne) nin0))
      have hinc36 : ¬ ((1 : Int32) < 0 ∨ c36.slots.size ≤ ((1 : Int32)).toNatClampNeg) := inb_of Sc36 ⟨by decide, by decide⟩
      have hatc36 : c36.slots[((1 : Int32)).toNatClampNeg]? = some (.long cc) := Hsc36.at hinc36 rfl
      obtain ⟨c37, Arc37, qc37, Sc37, Mc37, Hsc37, Gc37⟩ := id (V_ar.keep K35q (ninS (Ne.symm hne) nin0))
      have hinc37 : ¬ ((0 : Int32) < 0 ∨ c37.slots.size ≤ ((0 : Int32)).toNatClampNeg) := inb_of Sc37 ⟨by decide, by decide⟩
      obtain ⟨T38, h38, X38, e38, W38, st38⟩ := stJ X35 hx hZ rfl Arc37 (j := (0 : Int32)) hinc37 (g := (mkF m 81 #[.val (.ref aw), .val (.ref ar), .val (.long now), .second, .val (.long gp), .second, .val (.int l_), .val (.long (e_ + gp)), .second, .val (.int ((((((o_ + (1000000000 : Int64)) - now) + (1000000 : Int64)) - (1 : Int64)) / (1000000 : Int64)).toInt32))] [(.long (e_ + gp)), (.int (0 : Int32)), (.ref ar)])) rfl rfl (hb hby d5_81)
      have V38 := Arv.set Arc37 qc37 Sc37 Mc37 Hsc37 Gc37 rfl W38 0 rfl (Nat.le_of_ble_eq_true rfl)
      have K38 : Keep h0 h38 [aw, ar] := K35.wr W38 (Or.inl (List.mem_of_getElem? (i := 1) rfl))
      have N38 := Fr.snoc X38 N35 g_ar
      have Z38 : n0 ≤ h38.size := (Nat.le_trans Z35 (Nat.le_of_eq (Wr.size W38).symm))
      obtain ⟨fs, hr, hrun, hended, hW, hsame⟩ := X38.leave (v := some (.int (1 : Int32))) (fun h => by rw [Bd.returns] at h; cases h)
      refine ⟨_, _, pw25 _ ?_, hrun, hended, _, _, rfl, ?_, ⟨_, rfl⟩, hW, hsame.mono (by decide) (by decide)⟩
      · skip
        refine XS.aloadN X0.here hx rfl (hb hby d5_8) rfl rfl ?_
        show Steps p.tables e below (s₁.setTop (mkF m 9 #[.val (.ref aw), .val (.ref ar), .val (.long now), .second, .val (.long gp), .second, .val (.int l_), .val (.long (e_ + gp)), .second, .unset] [(.ref aw)])) _
        refine XS.lloadN X0.here hx rfl (hb hby d5_9) rfl ?_
        show Steps p.tables e below (s₁.setTop (mkF m 10 #[.val (.ref aw), .val (.ref ar), .val (.long now), .second, .val (.long gp), .second, .val (.int l_), .val (.long (e_ + gp)), .second, .unset] [(.long now), (.ref aw)])) _
        refine st35.trans ?_
        show Steps p.tables e below (T35.setTop (mkF m 13 #[.val (.ref aw), .val (.ref ar), .val (.long now), .second, .val (.long gp), .second, .val (.int l_), .val (.long (e_ + gp)), .second, .unset] [(.int ((((((o_ + (1000000000 : Int64)) - now) + (1000000 : Int64)) - (1 : Int64)) / (1000000 : Int64)).toInt32))])) _
        refine XS.istore X35.here hx rfl (hb hby d5_13) rfl (l' := #[.val (.ref aw), .val (.ref ar), .val (.long now), .second, .val (.long gp), .second, .val (.int l_), .val (.long (e_ + gp)), .second, .val (.int ((((((o_ + (1000000000 : Int64)) - now) + (1000000 : Int64)) - (1 : Int64)) / (1000000 : Int64)).toInt32))]) rfl ?_
        show Steps p.tables e below (T35.setTop (mkF m 15 #[.val (.ref aw), .val (.ref ar), .val (.long now), .second, .val (.long gp), .second, .val (.int l_), .val (.long (e_ + gp)), .second, .val (.int ((((((o_ + (1000000000 : Int64)) - now) + (1000000 : Int64)) - (1 : Int64)) / (1000000 : Int64)).toInt32))] [])) _
        refine XS.lload X35.here hx rfl (hb hby d5_15) rfl ?_
        show Steps p.tables e below (T35.setTop (mkF m 17 #[.val (.ref aw), .val (.ref ar), .val (.long now), .second, .val (.long gp), .second, .val (.int l_), .val (.long (e_ + gp)), .second, .val (.int ((((((o_ + (1000000000 : Int64)) - now) + (1000000 : Int64)) - (1 : Int64)) / (1000000 : Int64)).toInt32))] [(.long (e_ + gp))])) _
        refine X35.ldc2Long hx hown (mvT hZ (hw _ (List.mem_of_getElem? (i := 34) rfl))) (g := (mkF m 17 #[.val (.ref aw), .val (.ref ar), .val (.long now), .second, .val (.long gp), .second, .val (.int l_), .val (.long (e_ + gp)), .second, .val (.int ((((((o_ + (1000000000 : Int64)) - now) + (1000000 : Int64)) - (1 : Int64)) / (1000000 : Int64)).toInt32))] [(.long (e_ + gp))])) rfl (hb hby d5_17) _ ?_
        show Steps p.tables e below (T35.setTop (mkF m 20 #[.val (.ref aw), .val (.ref ar), .val (.long now), .second, .val (.long gp), .second, .val (.int l_), .val (.long (e_ + gp)), .second, .val (.int ((((((o_ + (1000000000 : Int64)) - now) + (1000000 : Int64)) - (1 : Int64)) / (1000000 : Int64)).toInt32))] [(.long (1000000000 : Int64)), (.long (e_ + gp))])) _
        refine XS.lcmp X35.here hx rfl (hb hby d5_20) rfl ?_
        show Steps p.tables e below (T35.setTop (mkF m 21 #[.val (.ref aw), .val (.ref ar), .val (.long now), .second, .val (.long gp), .second, .val (.int l_), .val (.long (e_ + gp)), .second, .val (.int ((((((o_ + (1000000000 : Int64)) - now) + (1000000 : Int64)) - (1 : Int64)) / (1000000 : Int64)).toInt32))] [(.int (lcmpW (e_ + gp) (1000000000 : Int64)))])) _
        refine XS.ifYes X35.here hx rfl (pc0 := 21) (pc' := 43) rfl (hb hby d5_21) rfl ((if0 _ _).trans (tlt ((lw_lt (e_ + gp) (1000000000 : Int64)).2 hf26)).1) (by decide) (by decide) ?_
        show Steps p.tables e below (T35.setTop (mkF m 43 #[.val (.ref aw), .val (.ref ar), .val (.long now), .second, .val (.long gp), .second, .val (.int l_), .val (.long (e_ + gp)), .second, .val (.int ((((((o_ + (1000000000 : Int64)) - now) + (1000000 : Int64)) - (1 : Int64)) / (1000000 : Int64)).toInt32))] [])) _
        refine XS.aloadN X35.here hx rfl (hb hby d5_43) rfl rfl ?_
        show Steps p.tables e below (T35.setTop (mkF m 44 #[.val (.ref aw), .val (.ref ar), .val (.long now), .second, .val (.long gp), .second, .val (.int l_), .val (.long (e_ + gp)), .second, .val (.int ((((((o_ + (1000000000 : Int64)) - now) + (1000000 : Int64)) - (1 : Int64)) / (1000000 : Int64)).toInt32))] [(.ref ar)])) _
        refine XS.iconst X35.here hx rfl (hb hby d5_44) ?_
        show Steps p.tables e below (T35.setTop (mkF m 45 #[.val (.ref aw), .val (.ref ar), .val (.long now), .second, .val (.long gp), .second, .val (.int l_), .val (.long (e_ + gp)), .second, .val (.int ((((((o_ + (1000000000 : Int64)) - now) + (1000000 : Int64)) - (1 : Int64)) / (1000000 : Int64)).toInt32))] [(.int (1 : Int32)), (.ref ar)])) _
        refine X35.laload hx (j := (1 : Int32)) (v := (.long cc)) Arc36.1 (State.isArrayOf_alike hZ.alike Arc36.2.1) Arc36.2.2 hinc36 hatc36 (g := (mkF m 45 #[.val (.ref aw), .val (.ref ar), .val (.long now), .second, .val (.long gp), .second, .val (.int l_), .val (.long (e_ + gp)), .second, .val (.int ((((((o_ + (1000000000 : Int64)) - now) + (1000000 : Int64)) - (1 : Int64)) / (1000000 : Int64)).toInt32))] [(.int (1 : Int32)), (.ref ar)])) rfl rfl (hb hby d5_45) _ ?_
        show Steps p.tables e below (T35.setTop (mkF m 46 #[.val (.ref aw), .val (.ref ar), .val (.long now), .second, .val (.long gp), .second, .val (.int l_), .val (.long (e_ + gp)), .second, .val (.int ((((((o_ + (1000000000 : Int64)) - now) + (1000000 : Int64)) - (1 : Int64)) / (1000000 : Int64)).toInt32))] [(.long cc)])) _
        refine XS.iload X35.here hx rfl (hb hby d5_46) rfl ?_
        show Steps p.tables e below (T35.setTop (mkF m 48 #[.val (.ref aw), .val (.ref ar), .val (.long now), .second, .val (.long gp), .second, .val (.int l_), .val (.long (e_ + gp)), .second, .val (.int ((((((o_ + (1000000000 : Int64)) - now) + (1000000 : Int64)) - (1 : Int64)) / (1000000 : Int64)).toInt32))] [(.int l_), (.long cc)])) _
        refine XS.i2l X35.here hx rfl (hb hby d5_48) rfl ?_
        show Steps p.tables e below (T35.setTop (mkF m 49 #[.val (.ref aw), .val (.ref ar), .val (.long now), .second, .val (.long gp), .second, .val (.int l_), .val (.long (e_ + gp)), .second, .val (.int ((((((o_ + (1000000000 : Int64)) - now) + (1000000 : Int64)) - (1 : Int64)) / (1000000 : Int64)).toInt32))] [(.long (l_.toInt64)), (.long cc)])) _
        refine XS.lcmp X35.here hx rfl (hb hby d5_49) rfl ?_
        show Steps p.tables e below (T35.setTop (mkF m 50 #[.val (.ref aw), .val (.ref ar), .val (.long now), .second, .val (.long gp), .second, .val (.int l_), .val (.long (e_ + gp)), .second, .val (.int ((((((o_ + (1000000000 : Int64)) - now) + (1000000 : Int64)) - (1 : Int64)) / (1000000 : Int64)).toInt32))] [(.int (lcmpW cc (l_.toInt64)))])) _
        refine XS.ifYes X35.here hx rfl (pc0 := 50) (pc' := 77) rfl (hb hby d5_50) rfl ((if0 _ _).trans (flt (mt (lw_lt cc (l_.toInt64)).1 (mt (own_lt64 hI.2.2.2.2.2.2).1 hf27 : ¬ (cc < (l_.toInt64))))).2.1) (by decide) (by decide) ?_
        show Steps p.tables e below (T35.setTop (mkF m 77 #[.val (.ref aw), .val (.ref ar), .val (.long now), .second, .val (.long gp), .second, .val (.int l_), .val (.long (e_ + gp)), .second, .val (.int ((((((o_ + (1000000000 : Int64)) - now) + (1000000 : Int64)) - (1 : Int64)) / (1000000 : Int64)).toInt32))] [])) _
        refine XS.aloadN X35.here hx rfl (hb hby d5_77) rfl rfl ?_
        show Steps p.tables e below (T35.setTop (mkF m 78 #[.val (.ref aw), .val (.ref ar), .val (.long now), .second, .val (.long gp), .second, .val (.int l_), .val (.long (e_ + gp)), .second, .val (.int ((((((o_ + (1000000000 : Int64)) - now) + (1000000 : Int64)) - (1 : Int64)) / (1000000 : Int64)).toInt32))] [(.ref ar)])) _
        refine XS.iconst X35.here hx rfl (hb hby d5_78) ?_
        show Steps p.tables e below (T35.setTop (mkF m 79 #[.val (.ref aw), .val (.ref ar), .val (.long now), .second, .val (.long gp), .second, .val (.int l_), .val (.long (e_ + gp)), .second, .val (.int ((((((o_ + (1000000000 : Int64)) - now) + (1000000 : Int64)) - (1 : Int64)) / (1000000 : Int64)).toInt32))] [(.int (0 : Int32)), (.ref ar)])) _
        refine XS.lload X35.here hx rfl (hb hby d5_79) rfl ?_
        show Steps p.tables e below (T35.setTop (mkF m 81 #[.val (.ref aw), .val (.ref ar), .val (.long now), .second, .val (.long gp), .second, .val (.int l_), .val (.long (e_ + gp)), .second, .val (.int ((((((o_ + (1000000000 : Int64)) - now) + (1000000 : Int64)) - (1 : Int64)) / (1000000 : Int64)).toInt32))] [(.long (e_ + gp)), (.int (0 : Int32)), (.ref ar)])) _
        refine st38 _ ?_
        show Steps p.tables e below (T38.setTop (mkF m 82 #[.val (.ref aw), .val (.ref ar), .val (.long now), .second, .val (.long gp), .second, .val (.int l_), .val (.long (e_ + gp)), .second, .val (.int ((((((o_ + (1000000000 : Int64)) - now) + (1000000 : Int64)) - (1 : Int64)) / (1000000 : Int64)).toInt32))] [])) _
        refine XS.iload X38.here hx rfl (hb hby d5_82) rfl ?_
        show Steps p.tables e below (T38.setTop (mkF m 84 #[.val (.ref aw), .val (.ref ar), .val (.long now), .second, .val (.long gp), .second, .val (.int l_), .val (.long (e_ + gp)), .second, .val (.int ((((((o_ + (1000000000 : Int64)) - now) + (1000000 : Int64)) - (1 : Int64)) / (1000000 : Int64)).toInt32))] [(.int ((((((o_ + (1000000000 : Int64)) - now) + (1000000 : Int64)) - (1 : Int64)) / (1000000 : Int64)).toInt32))])) _
        refine XS.sipush X38.here hx rfl (hb hby d5_84) ?_
        show Steps p.tables e below (T38.setTop (mkF m 87 #[.val (.ref aw), .val (.ref ar), .val (.long now), .second, .val (.long gp), .second, .val (.int l_), .val (.long (e_ + gp)), .second, .val (.int ((((((o_ + (1000000000 : Int64)) - now) + (1000000 : Int64)) - (1 : Int64)) / (1000000 : Int64)).toInt32))] [(.int (1000 : Int32)), (.int ((((((o_ + (1000000000 : Int64)) - now) + (1000000 : Int64)) - (1 : Int64)) / (1000000 : Int64)).toInt32))])) _
        refine XS.lload X38.here hx rfl (hb hby d5_87) rfl ?_
        show Steps p.tables e below (T38.setTop (mkF m 89 #[.val (.ref aw), .val (.ref ar), .val (.long now), .second, .val (.long gp), .second, .val (.int l_), .val (.long (e_ + gp)), .second, .val (.int ((((((o_ + (1000000000 : Int64)) - now) + (1000000 : Int64)) - (1 : Int64)) / (1000000 : Int64)).toInt32))] [(.long (e_ + gp)), (.int (1000 : Int32)), (.int ((((((o_ + (1000000000 : Int64)) - now) + (1000000 : Int64)) - (1 : Int64)) / (1000000 : Int64)).toInt32))])) _
        refine X38.ldc2Long hx hown (mvT hZ (hw _ (List.mem_of_getElem? (i := 35) rfl))) (g := (mkF m 89 #[.val (.ref aw), .val (.ref ar), .val (.long now), .second, .val (.long gp), .second, .val (.int l_), .val (.long (e_ + gp)), .second, .val (.int ((((((o_ + (1000000000 : Int64)) - now) + (1000000 : Int64)) - (1 : Int64)) / (1000000 : Int64)).toInt32))] [(.long (e_ + gp)), (.int (1000 : Int32)), (.int ((((((o_ + (1000000000 : Int64)) - now) + (1000000 : Int64)) - (1 : Int64)) / (1000000 : Int64)).toInt32))])) rfl (hb hby d5_89) _ ?_
        show Steps p.tables e below (T38.setTop (mkF m 92 #[.val (.ref aw), .val (.ref ar), .val (.long now), .second, .val (.long gp), .second, .val (.int l_), .val (.long (e_ + gp)), .second, .val (.int ((((((o_ + (1000000000 : Int64)) - now) + (1000000 : Int64)) - (1 : Int64)) / (1000000 : Int64)).toInt32))] [(.long (1000000 : Int64)), (.long (e_ + gp)), (.int (1000 : Int32)), (.int ((((((o_ + (1000000000 : Int64)) - now) + (1000000 : Int64)) - (1 : Int64)) / (1000000 : Int64)).toInt32))])) _
        refine XS.ldiv X38.here hx rfl (hb hby d5_92) rfl (by decide) ?_
        show Steps p.tables e below (T38.setTop (mkF m 93 #[.val (.ref aw), .val (.ref ar), .val (.long now), .second, .val (.long gp), .second, .val (.int l_), .val (.long (e_ + gp)), .second, .val (.int ((((((o_ + (1000000000 : Int64)) - now) + (1000000 : Int64)) - (1 : Int64)) / (1000000 : Int64)).toInt32))] [(.long ((e_ + gp) / (1000000 : Int64))), (.int (1000 : Int32)), (.int ((((((o_ + (1000000000 : Int64)) - now) + (1000000 : Int64)) - (1 : Int64)) / (1000000 : Int64)).toInt32))])) _
        refine XS.l2i X38.here hx rfl (hb hby d5_93) rfl ?_
        show Steps p.tables e below (T38.setTop (mkF m 94 #[.val (.ref aw), .val (.ref ar), .val (.long now), .second, .val (.long gp), .second, .val (.int l_), .val (.long (e_ + gp)), .second, .val (.int ((((((o_ + (1000000000 : Int64)) - now) + (1000000 : Int64)) - (1 : Int64)) / (1000000 : Int64)).toInt32))] [(.int (((e_ + gp) / (1000000 : Int64)).toInt32)), (.int (1000 : Int32)), (.int ((((((o_ + (1000000000 : Int64)) - now) + (1000000 : Int64)) - (1 : Int64)) / (1000000 : Int64)).toInt32))])) _
        refine XS.isub X38.here hx rfl (hb hby d5_94) rfl ?_
        show Steps p.tables e below (T38.setTop (mkF m 95 #[.val (.ref aw), .val (.ref ar), .val (.long now), .second, .val (.long gp), .second, .val (.int l_), .val (.long (e_ + gp)), .second, .val (.int ((((((o_ + (1000000000 : Int64)) - now) + (1000000 : Int64)) - (1 : Int64)) / (1000000 : Int64)).toInt32))] [(.int ((1000 : Int32) - (((e_ + gp) / (1000000 : Int64)).toInt32))), (.int ((((((o_ + (1000000000 : Int64)) - now) + (1000000 : Int64)) - (1 : Int64)) / (1000000 : Int64)).toInt32))])) _
        refine XS.icmpNo X38.here hx rfl (hb hby d5_95) rfl (teq (own_left hin (by rw [own_sum hI.2.1 hI.2.2.1 hg1 hg2]; have := hI.2.1; omega) (by have q := Int64.lt_iff_toInt_lt.mp hf26; exact q) : ((((((o_ + (1000000000 : Int64)) - now) + (1000000 : Int64)) - (1 : Int64)) / (1000000 : Int64)).toInt32) = ((1000 : Int32) - (((e_ + gp) / (1000000 : Int64)).toInt32)))).2 ?_
        show Steps p.tables e below (T38.setTop (mkF m 98 #[.val (.ref aw), .val (.ref ar), .val (.long now), .second, .val (.long gp), .second, .val (.int l_), .val (.long (e_ + gp)), .second, .val (.int ((((((o_ + (1000000000 : Int64)) - now) + (1000000 : Int64)) - (1 : Int64)) / (1000000 : Int64)).toInt32))] [])) _
        refine XS.iconst X38.here hx rfl (hb hby d5_98) ?_
        show Steps p.tables e below (T38.setTop (mkF m 99 #[.val (.ref aw), .val (.ref ar), .val (.long now), .second, .val (.long gp), .second, .val (.int l_), .val (.long (e_ + gp)), .second, .val (.int ((((((o_ + (1000000000 : Int64)) - now) + (1000000 : Int64)) - (1 : Int64)) / (1000000 : Int64)).toInt32))] [(.int (1 : Int32))])) _
        refine XS.goto X38.here hx rfl (pc0 := 99) (pc' := 103) rfl (hb hby d5_99) (by decide) (by decide) ?_
        show Steps p.tables e below (T38.setTop (mkF m 103 #[.val (.ref aw), .val (.ref ar), .val (.long now), .second, .val (.long gp), .second, .val (.int l_), .val (.long (e_ + gp)), .second, .val (.int ((((((o_ + (1000000000 : Int64)) - now) + (1000000 : Int64)) - (1 : Int64)) / (1000000 : Int64)).toInt32))] [(.int (1 : Int32))])) _
        exact retN X38 hx (t := .boolean) Bd.returns (by simp) (hb hby d5_103) hr
      · show Q_5 Z aw ar now gp l_ pn o_ c_ e_ cc kk h0 n0 _ T38.heap _
        rw [e38]
        exact ⟨o_, c_, (e_ + gp), cc, rfl, N38, K38, (E35q.wr W38), (Fl35q.other W38 (Or.inl hne)), (Fo35q.other W38 (Or.inl hne)), (Fa35q.other W38 (Or.inl hne)), V38, (own_inv3 hI hnow hg1 hg2 hf26)⟩
  · skip
    obtain ⟨cq39, kq39, q39a, q39b, q39c⟩ := isOf hZ e0 E_aw
    obtain ⟨_, _, ⟨T39, L39, k39, n39⟩, -, X39, ⟨Lc39, hQ39, l39, y39, z39⟩, st39⟩ := X0.virtualBack hx (y := (⟨"com/example/gated_chorus/gatedchorus/limit/Window", "admit", "(J)I"⟩ : MethodName)) (z := (⟨"com/example/gated_chorus/gatedchorus/limit/Window", "admit", "(J)I"⟩ : MethodName)) hown (mvT hZ (hw _ (List.mem_of_getElem? (i := 18) rfl))) (mvT hZ (hw _ (List.mem_of_getElem? (i := 19) rfl))) (notFace_of_selects (args := #[]) (mvT hZ (hw _ (List.mem_of_getElem? (i := 21) rfl)))) (mvT hZ (hw _ (List.mem_of_getElem? (i := 21) rfl))) (mvT hZ (hw _ (List.mem_of_getElem? (i := 20) rfl))) (by decide) (backOf (W := 0) (rm_4 l Z a0 hw [] aw now o_ c_ l_ now (1 : Int32) (0 : Int32) h0 n0 Z0 S_L S_N E_aw F_limit F_opened F_accepted g_aw (by unfold own_admit; rw [if_neg (own_c0 hI.2.2.2.1), if_neg (by rw [hin]; exact hf26 : ¬ (now - o_ < (1000000000 : Int64)))])) hZ (hw _ (List.mem_of_getElem? (i := 22) rfl)) (hw _ (List.mem_of_getElem? (i := 2) rfl)) (by decide) (by decide)) q39a q39c (g := (mkF m 10 #[.val (.ref aw), .val (.ref ar), .val (.long now), .second, .val (.long gp), .second, .val (.int l_), .val (.long (e_ + gp)), .second, .unset] [(.long now), (.ref aw)])) rfl (by rw [hml]; rfl) (Steps.refl _) (argsL := [(.long now)]) (rest := []) (lenOf pd__J_I rfl) rfl (by show 2 * 0 + _ ≤ _; exact Nat.le_of_eq rfl) (hb hby d5_10) (fun _ _ => ⟨rfl, e0, (by decide : 0 + 0 ≤ _), (by decide : 0 + 0 ≤ _)⟩)
    dsimp only [Pt.U, Pt.locs, Pt.cells, Pt.slots] at X39 l39 y39 z39 st39 hQ39
    subst l39 y39 z39
    obtain ⟨rfl, N39q, K39q, E39q, Fl39q, Fo39q, Fa39q⟩ := hQ39
    have N39 := Fr.app N0 N39q
    have S39_0 := own_staKeep S_L K39q (nsS (E_aw.nostat) ns0)
    have S39_1 := own_staKeep S_N K39q (nsS (E_aw.nostat) ns0)
    have K39 : Keep h0 T39.heap [aw, ar] := K0.trans K39q (allS (P := fun x => x ∈ [aw, ar] ∨ h0.size ≤ x) (Or.inl (List.mem_of_getElem? (i := 0) rfl)) all0)
    have Z39 : n0 ≤ T39.heap.size := (Nat.le_trans Z0 K39q.1)
    obtain ⟨c40, Arc40, qc40, Sc40, Mc40, Hsc40, Gc40⟩ := id (V_ar.keep K39q (ninS (Ne.symm hne) nin0))
    have hinc40 : ¬ ((0 : Int32) < 0 ∨ c40.slots.size ≤ ((0 : Int32)).toNatClampNeg) := inb_of Sc40 ⟨by decide, by decide⟩
    obtain ⟨T41, h41, X41, e41, W41, st41⟩ := stJ X39 hx hZ rfl Arc40 (j := (0 : Int32)) hinc40 (g := (mkF m 27 #[.val (.ref aw), .val (.ref ar), .val (.long now), .second, .val (.long gp), .second, .val (.int l_), .val (.long (e_ + gp)), .second, .val (.int (0 : Int32))] [(.long (0 : Int64)), (.int (0 : Int32)), (.ref ar)])) rfl rfl (hb hby d5_27)
    have V41 := Arv.set Arc40 qc40 Sc40 Mc40 Hsc40 Gc40 rfl W41 0 rfl (Nat.le_of_ble_eq_true rfl)
    have K41 : Keep h0 h41 [aw, ar] := K39.wr W41 (Or.inl (List.mem_of_getElem? (i := 1) rfl))
    have N41 := Fr.snoc X41 N39 g_ar
    have Z41 : n0 ≤ h41.size := (Nat.le_trans Z39 (Nat.le_of_eq (Wr.size W41).symm))
    obtain ⟨c42, Arc42, qc42, Sc42, Mc42, Hsc42, Gc42⟩ := id V41
    have hinc42 : ¬ ((1 : Int32) < 0 ∨ c42.slots.size ≤ ((1 : Int32)).toNatClampNeg) := inb_of Sc42 ⟨by decide, by decide⟩
    obtain ⟨T43, h43, X43, e43, W43, st43⟩ := stJ X41 hx hZ e41 Arc42 (j := (1 : Int32)) hinc42 (g := (mkF m 31 #[.val (.ref aw), .val (.ref ar), .val (.long now), .second, .val (.long gp), .second, .val (.int l_), .val (.long (e_ + gp)), .second, .val (.int (0 : Int32))] [(.long (1 : Int64)), (.int (1 : Int32)), (.ref ar)])) rfl rfl (hb hby d5_31)
    have V43 := Arv.set Arc42 qc42 Sc42 Mc42 Hsc42 Gc42 rfl W43 1 rfl (Nat.le_of_ble_eq_true rfl)
    have K43 : Keep h0 h43 [aw, ar] := K41.wr W43 (Or.inl (List.mem_of_getElem? (i := 1) rfl))
    have N43 := Fr.snoc X43 N41 g_ar
    have Z43 : n0 ≤ h43.size := (Nat.le_trans Z41 (Nat.le_of_eq (Wr.size W43).symm))
    obtain ⟨fs, hr, hrun, hended, hW, hsame⟩ := X43.leave (v := some (.int (1 : Int32))) (fun h => by rw [Bd.returns] at h; cases h)
    refine ⟨_, _, pw25 _ ?_, hrun, hended, _, _, rfl, ?_, ⟨_, rfl⟩, hW, hsame.mono (by decide) (by decide)⟩
    · skip
      refine XS.aloadN X0.here hx rfl (hb hby d5_8) rfl rfl ?_
      show Steps p.tables e below (s₁.setTop (mkF m 9 #[.val (.ref aw), .val (.ref ar), .val (.long now), .second, .val (.long gp), .second, .val (.int l_), .val (.long (e_ + gp)), .second, .unset] [(.ref aw)])) _
      refine XS.lloadN X0.here hx rfl (hb hby d5_9) rfl ?_
      show Steps p.tables e below (s₁.setTop (mkF m 10 #[.val (.ref aw), .val (.ref ar), .val (.long now), .second, .val (.long gp), .second, .val (.int l_), .val (.long (e_ + gp)), .second, .unset] [(.long now), (.ref aw)])) _
      refine st39.trans ?_
      show Steps p.tables e below (T39.setTop (mkF m 13 #[.val (.ref aw), .val (.ref ar), .val (.long now), .second, .val (.long gp), .second, .val (.int l_), .val (.long (e_ + gp)), .second, .unset] [(.int (0 : Int32))])) _
      refine XS.istore X39.here hx rfl (hb hby d5_13) rfl (l' := #[.val (.ref aw), .val (.ref ar), .val (.long now), .second, .val (.long gp), .second, .val (.int l_), .val (.long (e_ + gp)), .second, .val (.int (0 : Int32))]) rfl ?_
      show Steps p.tables e below (T39.setTop (mkF m 15 #[.val (.ref aw), .val (.ref ar), .val (.long now), .second, .val (.long gp), .second, .val (.int l_), .val (.long (e_ + gp)), .second, .val (.int (0 : Int32))] [])) _
      refine XS.lload X39.here hx rfl (hb hby d5_15) rfl ?_
      show Steps p.tables e below (T39.setTop (mkF m 17 #[.val (.ref aw), .val (.ref ar), .val (.long now), .second, .val (.long gp), .second, .val (.int l_), .val (.long (e_ + gp)), .second, .val (.int (0 : Int32))] [(.long (e_ + gp))])) _
      refine X39.ldc2Long hx hown (mvT hZ (hw _ (List.mem_of_getElem? (i := 34) rfl))) (g := (mkF m 17 #[.val (.ref aw), .val (.ref ar), .val (.long now), .second, .val (.long gp), .second, .val (.int l_), .val (.long (e_ + gp)), .second, .val (.int (0 : Int32))] [(.long (e_ + gp))])) rfl (hb hby d5_17) _ ?_
      show Steps p.tables e below (T39.setTop (mkF m 20 #[.val (.ref aw), .val (.ref ar), .val (.long now), .second, .val (.long gp), .second, .val (.int l_), .val (.long (e_ + gp)), .second, .val (.int (0 : Int32))] [(.long (1000000000 : Int64)), (.long (e_ + gp))])) _
      refine XS.lcmp X39.here hx rfl (hb hby d5_20) rfl ?_
      show Steps p.tables e below (T39.setTop (mkF m 21 #[.val (.ref aw), .val (.ref ar), .val (.long now), .second, .val (.long gp), .second, .val (.int l_), .val (.long (e_ + gp)), .second, .val (.int (0 : Int32))] [(.int (lcmpW (e_ + gp) (1000000000 : Int64)))])) _
      refine XS.ifNo X39.here hx rfl (hb hby d5_21) rfl ((if0 _ _).trans (flt (mt (lw_lt (e_ + gp) (1000000000 : Int64)).1 hf26)).1) ?_
      show Steps p.tables e below (T39.setTop (mkF m 24 #[.val (.ref aw), .val (.ref ar), .val (.long now), .second, .val (.long gp), .second, .val (.int l_), .val (.long (e_ + gp)), .second, .val (.int (0 : Int32))] [])) _
      refine XS.aloadN X39.here hx rfl (hb hby d5_24) rfl rfl ?_
      show Steps p.tables e below (T39.setTop (mkF m 25 #[.val (.ref aw), .val (.ref ar), .val (.long now), .second, .val (.long gp), .second, .val (.int l_), .val (.long (e_ + gp)), .second, .val (.int (0 : Int32))] [(.ref ar)])) _
      refine XS.iconst X39.here hx rfl (hb hby d5_25) ?_
      show Steps p.tables e below (T39.setTop (mkF m 26 #[.val (.ref aw), .val (.ref ar), .val (.long now), .second, .val (.long gp), .second, .val (.int l_), .val (.long (e_ + gp)), .second, .val (.int (0 : Int32))] [(.int (0 : Int32)), (.ref ar)])) _
      refine XS.lconst X39.here hx rfl (hb hby d5_26) ?_
      show Steps p.tables e below (T39.setTop (mkF m 27 #[.val (.ref aw), .val (.ref ar), .val (.long now), .second, .val (.long gp), .second, .val (.int l_), .val (.long (e_ + gp)), .second, .val (.int (0 : Int32))] [(.long (0 : Int64)), (.int (0 : Int32)), (.ref ar)])) _
      refine st41 _ ?_
      show Steps p.tables e below (T41.setTop (mkF m 28 #[.val (.ref aw), .val (.ref ar), .val (.long now), .second, .val (.long gp), .second, .val (.int l_), .val (.long (e_ + gp)), .second, .val (.int (0 : Int32))] [])) _
      refine XS.aloadN X41.here hx rfl (hb hby d5_28) rfl rfl ?_
      show Steps p.tables e below (T41.setTop (mkF m 29 #[.val (.ref aw), .val (.ref ar), .val (.long now), .second, .val (.long gp), .second, .val (.int l_), .val (.long (e_ + gp)), .second, .val (.int (0 : Int32))] [(.ref ar)])) _
      refine XS.iconst X41.here hx rfl (hb hby d5_29) ?_
      show Steps p.tables e below (T41.setTop (mkF m 30 #[.val (.ref aw), .val (.ref ar), .val (.long now), .second, .val (.long gp), .second, .val (.int l_), .val (.long (e_ + gp)), .second, .val (.int (0 : Int32))] [(.int (1 : Int32)), (.ref ar)])) _
      refine XS.lconst X41.here hx rfl (hb hby d5_30) ?_
      show Steps p.tables e below (T41.setTop (mkF m 31 #[.val (.ref aw), .val (.ref ar), .val (.long now), .second, .val (.long gp), .second, .val (.int l_), .val (.long (e_ + gp)), .second, .val (.int (0 : Int32))] [(.long (1 : Int64)), (.int (1 : Int32)), (.ref ar)])) _
      refine st43 _ ?_
      show Steps p.tables e below (T43.setTop (mkF m 32 #[.val (.ref aw), .val (.ref ar), .val (.long now), .second, .val (.long gp), .second, .val (.int l_), .val (.long (e_ + gp)), .second, .val (.int (0 : Int32))] [])) _
      refine XS.iload X43.here hx rfl (hb hby d5_32) rfl ?_
      show Steps p.tables e below (T43.setTop (mkF m 34 #[.val (.ref aw), .val (.ref ar), .val (.long now), .second, .val (.long gp), .second, .val (.int l_), .val (.long (e_ + gp)), .second, .val (.int (0 : Int32))] [(.int (0 : Int32))])) _
      refine XS.ifNo X43.here hx rfl (hb hby d5_34) rfl ((if0 _ _).trans (teq (by decide : (0 : Int32) = (0 : Int32))).2) ?_
      show Steps p.tables e below (T43.setTop (mkF m 37 #[.val (.ref aw), .val (.ref ar), .val (.long now), .second, .val (.long gp), .second, .val (.int l_), .val (.long (e_ + gp)), .second, .val (.int (0 : Int32))] [])) _
      refine XS.iconst X43.here hx rfl (hb hby d5_37) ?_
      show Steps p.tables e below (T43.setTop (mkF m 38 #[.val (.ref aw), .val (.ref ar), .val (.long now), .second, .val (.long gp), .second, .val (.int l_), .val (.long (e_ + gp)), .second, .val (.int (0 : Int32))] [(.int (1 : Int32))])) _
      refine XS.goto X43.here hx rfl (pc0 := 38) (pc' := 42) rfl (hb hby d5_38) (by decide) (by decide) ?_
      show Steps p.tables e below (T43.setTop (mkF m 42 #[.val (.ref aw), .val (.ref ar), .val (.long now), .second, .val (.long gp), .second, .val (.int l_), .val (.long (e_ + gp)), .second, .val (.int (0 : Int32))] [(.int (1 : Int32))])) _
      exact retN X43 hx (t := .boolean) Bd.returns (by simp) (hb hby d5_42) hr
    · show Q_5 Z aw ar now gp l_ pn o_ c_ e_ cc kk h0 n0 _ T43.heap _
      rw [e43]
      exact ⟨now, (1 : Int32), (0 : Int64), (1 : Int64), rfl, N43, K43, ((E39q.wr W41).wr W43), ((Fl39q.other W41 (Or.inl hne)).other W43 (Or.inl hne)), ((Fo39q.other W41 (Or.inl hne)).other W43 (Or.inl hne)), ((Fa39q.other W41 (Or.inl hne)).other W43 (Or.inl hne)), V43, (own_inv1 now (Int.le_trans hI.2.2.2.1 hI.2.2.2.2.1) hI.2.2.2.2.2.1)⟩
theorem ef_0 (m : MethodId) (x0 : Int32) (x1 : Int64) (x2 : Int32) (x3 : Int32) (x4 : Int32) (x5 : Int32) : entryFrame m #[(.int x0), (.long x1), (.int x2), (.int x3), (.int x4), (.int x5)] maxLocals = mkF m 0 #[.val (.int x0), .val (.long x1), .second, .val (.int x2), .val (.int x3), .val (.int x4), .val (.int x5), .unset, .unset, .unset, .unset, .unset, .unset, .unset, .unset, .unset, .unset, .unset, .unset, .unset, .unset] [] := by first | (simp [entryFrame, mkF, argsToLocals, Value.category, maxLocals]; done) | rfl
def Q_0 (Z : State) (x0 : Int32) (x1 : Int64) (x2 : Int32) (x3 : Int32) (x4 : Int32) (x5 : Int32) (d1 d2 d3 d4 : Int64) (h0 : Heap) (n0 : Nat) (v : Option Value) (h : Heap) (L : List Loc) : Prop := v = some (.int 1) ∧ Fr n0 L
set_option maxRecDepth 65536 in
set_option maxHeartbeats 40000000 in
theorem rm_0 (l : Launch) (Z : State) (a0 : Array Value) (hw : ∀ d ∈ tables_1, d.before a0 Z = true) (ws : List Jvm.Cond) (x0 : Int32) (x1 : Int64) (x2 : Int32) (x3 : Int32) (x4 : Int32) (x5 : Int32) (d1 d2 d3 d4 : Int64) (h0 : Heap) (n0 : Nat) (Z0 : n0 ≤ h0.size) (S_L : Sta Z h0 "com/example/gated_chorus/gatedchorus/limit/Window" "LENGTH_NS" "J" (.long (1000000000 : Int64))) (S_N : Sta Z h0 "com/example/gated_chorus/gatedchorus/limit/Window" "NS_PER_MS" "J" (.long (1000000 : Int64))) (hd1 : own_gap x2 = d1) (hd2 : own_gap x3 = d2) (hd3 : own_gap x4 = d3) (hd4 : own_gap x5 = d4) (hdr1 : 0 ≤ d1.toInt ∧ d1.toInt ≤ 1500000000) (hdr2 : 0 ≤ d2.toInt ∧ d2.toInt ≤ 1500000000) (hdr3 : 0 ≤ d3.toInt ∧ d3.toInt ≤ 1500000000) (hdr4 : 0 ≤ d4.toInt ∧ d4.toInt ≤ 1500000000) :
    MetFree l x (head1 (Jvm.Cond.code x code maxLocals ret :: ws) room_1) (fun a U => a = #[(.int x0), (.long x1), (.int x2), (.int x3), (.int x4), (.int x5)] ∧ Z.Warmed39 U.vm ∧ U.heap = h0) (fun _ _ _ _ _ => True) (fun _ U o U' => ∃ v L, o = .returned v ∧ Q_0 Z x0 x1 x2 x3 x4 x5 d1 d2 d3 d4 h0 n0 v U'.heap L ∧ FrameEnd U o U' L room_1.cells room_1.slots) := by
  refine MetFree.of_bodySF (plainFor_of_name pn_com_example_gated_chorus_gatedchorus_limit_WindowAdmitPinLaw) hisR ?_
  intro p e s m args below meth c s₁ Bd hml0 hP hK
  obtain ⟨rfl, hZ, hh⟩ := hP
  have hx := Bd.exec
  have hby := Bd.bytes
  have hml : c.maxLocals = 21 := hml0
  have hown : s.vm.findClass "com/example/gated_chorus/gatedchorus/limit/WindowAdmitPinLaw" = some m.cls := findClass_of_methodNamed Bd.named
  have hnm := (name_of_methodNamed Bd.named Bd.method).1
  have X0 : Stand p l e room_1 s m #[(.int x0), (.long x1), (.int x2), (.int x3), (.int x4), (.int x5)] below meth c s₁ [] 0 0 := Stand.of_body Bd
  have e0 : s₁.heap = h0 := by rw [← hh, Bd.state]; rfl
  have N0 := Fr.nil n0
  have pw0 : ∀ t, Steps p.tables e below (s₁.setTop (mkF m 0 #[.val (.int x0), .val (.long x1), .second, .val (.int x2), .val (.int x3), .val (.int x4), .val (.int x5), .unset, .unset, .unset, .unset, .unset, .unset, .unset, .unset, .unset, .unset, .unset, .unset, .unset, .unset] [])) t → Steps p.tables e below (s₁.setTop (entryFrame m #[(.int x0), (.long x1), (.int x2), (.int x3), (.int x4), (.int x5)] maxLocals)) t := fun t k => castTop (ef_0 m x0 x1 x2 x3 x4 x5) k
  have K0 : Keep h0 h0 [] := Keep.refl h0 []
  obtain ⟨T44, h44, X44, e44, E44, A44, D44, -, st44⟩ := newO X0 hx hZ hown (hw _ (List.mem_of_getElem? (i := 0) rfl)) (hw _ (List.mem_of_getElem? (i := 1) rfl)) (hw _ (List.mem_of_getElem? (i := 2) rfl)) e0 (g := (mkF m 7 #[.val (.int x0), .val (.long x1), .second, .val (.int x2), .val (.int x3), .val (.int x4), .val (.int x5), .val (.int ((x0 &&& (3 : Int32)) + (1 : Int32))), .unset, .unset, .unset, .unset, .unset, .unset, .unset, .unset, .unset, .unset, .unset, .unset, .unset] [])) rfl (hb hby at_7) (by decide) (by decide)
  obtain ⟨b44, g44⟩ : ∃ z, z = h0.size := ⟨_, rfl⟩
  rw [← g44] at A44 D44 st44
  have g_b44 : n0 ≤ b44 := Nat.le_trans Z0 (Nat.le_of_eq g44.symm)
  have sz_b44 : h0.size ≤ b44 := Nat.le_trans K0.1 (Nat.le_of_eq g44.symm)
  have F_limit_b44 : Fld Z h44 b44 "com/example/gated_chorus/gatedchorus/limit/Window" "limit" "I" (.int (0 : Int32)) := D44 (Or.inr (hw _ (List.mem_of_getElem? (i := 10) rfl))) (ty := .int) (by decide)
  have F_accepted_b44 : Fld Z h44 b44 "com/example/gated_chorus/gatedchorus/limit/Window" "accepted" "I" (.int (0 : Int32)) := D44 (Or.inl (hw _ (List.mem_of_getElem? (i := 24) rfl))) (ty := .int) (by decide)
  have F_opened_b44 : Fld Z h44 b44 "com/example/gated_chorus/gatedchorus/limit/Window" "opened" "J" (.long (0 : Int64)) := D44 (Or.inl (hw _ (List.mem_of_getElem? (i := 26) rfl))) (ty := .long) (by decide)
  have K44 : Keep h0 h44 [] := K0.ext E44
  have Z44 : n0 ≤ h44.size := (Nat.le_trans Z0 E44.1)
  obtain ⟨_, _, ⟨T45, L45, k45, n45⟩, -, X45, ⟨Lc45, hQ45, l45, y45, z45⟩, st45⟩ := X44.specialBack hx (y := (⟨"com/example/gated_chorus/gatedchorus/limit/Window", "<init>", "(I)V"⟩ : MethodName)) rfl hown (mvT hZ (hw _ (List.mem_of_getElem? (i := 3) rfl))) (mvT hZ (hw _ (List.mem_of_getElem? (i := 4) rfl))) (mvT hZ (hw _ (List.mem_of_getElem? (i := 5) rfl))) (by decide) (backOf (W := 1) (rm_1 l Z a0 hw [] b44 ((x0 &&& (3 : Int32)) + (1 : Int32)) h44 n0 Z44 A44 F_limit_b44 F_opened_b44 F_accepted_b44 g_b44) hZ (hw _ (List.mem_of_getElem? (i := 5) rfl)) (hw _ (List.mem_of_getElem? (i := 2) rfl)) (by decide) (by decide)) (g := (mkF m 13 #[.val (.int x0), .val (.long x1), .second, .val (.int x2), .val (.int x3), .val (.int x4), .val (.int x5), .val (.int ((x0 &&& (3 : Int32)) + (1 : Int32))), .unset, .unset, .unset, .unset, .unset, .unset, .unset, .unset, .unset, .unset, .unset, .unset, .unset] [(.int ((x0 &&& (3 : Int32)) + (1 : Int32))), (.ref b44), (.ref b44)])) rfl (by rw [hml]; rfl) (Steps.refl _) (a := b44) (argsL := [(.int ((x0 &&& (3 : Int32)) + (1 : Int32)))]) (rest := [(.ref b44)]) (lenOf pd__I_V rfl) rfl (by show 2 * 0 + _ ≤ _; exact Nat.le_of_eq rfl) (hb hby at_13) (fun _ _ => ⟨rfl, e44, (by decide : 1 + 0 ≤ _), (by decide : 3 + 0 ≤ _)⟩)
  dsimp only [Pt.U, Pt.locs, Pt.cells, Pt.slots] at X45 l45 y45 z45 st45 hQ45
  subst l45 y45 z45
  obtain ⟨rfl, N45q, K45q, E45q, Fl45q, Fo45q, Fa45q⟩ := hQ45
  have N45 := Fr.app N0 N45q
  have S45_0 := own_staKeep (Sta.ext E44 S_L) K45q (nsS (A44.nostat) ns0)
  have S45_1 := own_staKeep (Sta.ext E44 S_N) K45q (nsS (A44.nostat) ns0)
  have K45 : Keep h0 T45.heap [] := K44.trans K45q (allS (P := fun x => x ∈ [] ∨ h0.size ≤ x) (Or.inr sz_b44) all0)
  have Z45 : n0 ≤ T45.heap.size := (Nat.le_trans Z44 K45q.1)
  obtain ⟨T46, h46, k46, X46, e46, E46, A46, st46⟩ := newP X45 hx hZ (hw _ (List.mem_of_getElem? (i := 11) rfl)) rfl (g := (mkF m 19 #[.val (.int x0), .val (.long x1), .second, .val (.int x2), .val (.int x3), .val (.int x4), .val (.int x5), .val (.int ((x0 &&& (3 : Int32)) + (1 : Int32))), .val (.ref b44), .unset, .unset, .unset, .unset, .unset, .unset, .unset, .unset, .unset, .unset, .unset, .unset] [(.int (2 : Int32))])) rfl (hb hby at_19) rfl (by decide) (cap := 2) (by decide) (by decide) (by decide) (by decide)
  obtain ⟨b46, g46⟩ : ∃ z, z = T45.heap.size := ⟨_, rfl⟩
  rw [← g46] at A46 st46
  have g_b46 : n0 ≤ b46 := Nat.le_trans Z45 (Nat.le_of_eq g46.symm)
  have sz_b46 : h0.size ≤ b46 := Nat.le_trans K45.1 (Nat.le_of_eq g46.symm)
  have V46 : Arv Z h46 b46 k46 .long (2 : Int32) [(.long (0 : Int64)), (.long (0 : Int64))] (.long (0 : Int64)) := (Arv.new A46 (by decide)).pad (pad_rep [] (.long (0 : Int64)) 2)
  have hwa : b44 ≠ b46 := (Nat.ne_of_lt (Nat.lt_of_lt_of_le E45q.lt (Nat.le_of_eq g46.symm)))
  have K46 : Keep h0 h46 [] := K45.ext E46
  have Z46 : n0 ≤ h46.size := (Nat.le_trans Z45 E46.1)
  obtain ⟨_, _, ⟨T47, L47, k47, n47⟩, -, X47, ⟨Lc47, hQ47, l47, y47, z47⟩, st47⟩ := Jvm.LawKit.callS X46 hx (y := (⟨"com/example/gated_chorus/gatedchorus/limit/WindowAdmitPinLaw", "gap", "(I)J"⟩ : MethodName)) hown (mvT hZ (hw _ (List.mem_of_getElem? (i := 12) rfl))) (mvT hZ (hw _ (List.mem_of_getElem? (i := 13) rfl))) (mvT hZ (hw _ (List.mem_of_getElem? (i := 14) rfl))) (mvT hZ (hw _ (List.mem_of_getElem? (i := 15) rfl))) (by decide) (backOf (W := 0) (rm_3 l Z a0 hw [] x2 d1 h46 n0 Z46 hd1) hZ (hw _ (List.mem_of_getElem? (i := 15) rfl)) (hw _ (List.mem_of_getElem? (i := 14) rfl)) (by decide) (by decide)) (g := (mkF m 24 #[.val (.int x0), .val (.long x1), .second, .val (.int x2), .val (.int x3), .val (.int x4), .val (.int x5), .val (.int ((x0 &&& (3 : Int32)) + (1 : Int32))), .val (.ref b44), .val (.ref b46), .unset, .unset, .unset, .unset, .unset, .unset, .unset, .unset, .unset, .unset, .unset] [(.int x2)])) rfl (by rw [hml]; rfl) (argsL := [(.int x2)]) (rest := []) (lenOf pd__I_J rfl) rfl (by show 2 * 0 + _ ≤ _; exact Nat.le_of_eq rfl) (hb hby at_24) (fun _ _ => ⟨rfl, e46, (by decide : 2 + 0 ≤ _), (by decide : 5 + 0 ≤ _)⟩)
  dsimp only [Pt.U, Pt.locs, Pt.cells, Pt.slots] at X47 l47 y47 z47 st47 hQ47
  subst l47 y47 z47
  obtain ⟨rfl, N47q, e47q⟩ := hQ47
  have N47 := Fr.app N45 N47q
  obtain ⟨_, _, ⟨T48, L48, k48, n48⟩, -, X48, ⟨Lc48, hQ48, l48, y48, z48⟩, st48⟩ := Jvm.LawKit.callS X47 hx (y := (⟨"com/example/gated_chorus/gatedchorus/limit/WindowAdmitPinLaw", "gap", "(I)J"⟩ : MethodName)) hown (mvT hZ (hw _ (List.mem_of_getElem? (i := 12) rfl))) (mvT hZ (hw _ (List.mem_of_getElem? (i := 13) rfl))) (mvT hZ (hw _ (List.mem_of_getElem? (i := 14) rfl))) (mvT hZ (hw _ (List.mem_of_getElem? (i := 15) rfl))) (by decide) (backOf (W := 0) (rm_3 l Z a0 hw [] x3 d2 h46 n0 Z46 hd2) hZ (hw _ (List.mem_of_getElem? (i := 15) rfl)) (hw _ (List.mem_of_getElem? (i := 14) rfl)) (by decide) (by decide)) (g := (mkF m 31 #[.val (.int x0), .val (.long x1), .second, .val (.int x2), .val (.int x3), .val (.int x4), .val (.int x5), .val (.int ((x0 &&& (3 : Int32)) + (1 : Int32))), .val (.ref b44), .val (.ref b46), .val (.long d1), .second, .unset, .unset, .unset, .unset, .unset, .unset, .unset, .unset, .unset] [(.int x3)])) rfl (by rw [hml]; rfl) (argsL := [(.int x3)]) (rest := []) (lenOf pd__I_J rfl) rfl (by show 2 * 0 + _ ≤ _; exact Nat.le_of_eq rfl) (hb hby at_31) (fun _ _ => ⟨rfl, e47q, (by decide : 2 + 0 ≤ _), (by decide : 5 + 0 ≤ _)⟩)
  dsimp only [Pt.U, Pt.locs, Pt.cells, Pt.slots] at X48 l48 y48 z48 st48 hQ48
  subst l48 y48 z48
  obtain ⟨rfl, N48q, e48q⟩ := hQ48
  have N48 := Fr.app N47 N48q
  obtain ⟨_, _, ⟨T49, L49, k49, n49⟩, -, X49, ⟨Lc49, hQ49, l49, y49, z49⟩, st49⟩ := Jvm.LawKit.callS X48 hx (y := (⟨"com/example/gated_chorus/gatedchorus/limit/WindowAdmitPinLaw", "gap", "(I)J"⟩ : MethodName)) hown (mvT hZ (hw _ (List.mem_of_getElem? (i := 12) rfl))) (mvT hZ (hw _ (List.mem_of_getElem? (i := 13) rfl))) (mvT hZ (hw _ (List.mem_of_getElem? (i := 14) rfl))) (mvT hZ (hw _ (List.mem_of_getElem? (i := 15) rfl))) (by decide) (backOf (W := 0) (rm_3 l Z a0 hw [] x4 d3 h46 n0 Z46 hd3) hZ (hw _ (List.mem_of_getElem? (i := 15) rfl)) (hw _ (List.mem_of_getElem? (i := 14) rfl)) (by decide) (by decide)) (g := (mkF m 38 #[.val (.int x0), .val (.long x1), .second, .val (.int x2), .val (.int x3), .val (.int x4), .val (.int x5), .val (.int ((x0 &&& (3 : Int32)) + (1 : Int32))), .val (.ref b44), .val (.ref b46), .val (.long d1), .second, .val (.long d2), .second, .unset, .unset, .unset, .unset, .unset, .unset, .unset] [(.int x4)])) rfl (by rw [hml]; rfl) (argsL := [(.int x4)]) (rest := []) (lenOf pd__I_J rfl) rfl (by show 2 * 0 + _ ≤ _; exact Nat.le_of_eq rfl) (hb hby at_38) (fun _ _ => ⟨rfl, e48q, (by decide : 2 + 0 ≤ _), (by decide : 5 + 0 ≤ _)⟩)
  dsimp only [Pt.U, Pt.locs, Pt.cells, Pt.slots] at X49 l49 y49 z49 st49 hQ49
  subst l49 y49 z49
  obtain ⟨rfl, N49q, e49q⟩ := hQ49
  have N49 := Fr.app N48 N49q
  obtain ⟨_, _, ⟨T50, L50, k50, n50⟩, -, X50, ⟨Lc50, hQ50, l50, y50, z50⟩, st50⟩ := Jvm.LawKit.callS X49 hx (y := (⟨"com/example/gated_chorus/gatedchorus/limit/WindowAdmitPinLaw", "gap", "(I)J"⟩ : MethodName)) hown (mvT hZ (hw _ (List.mem_of_getElem? (i := 12) rfl))) (mvT hZ (hw _ (List.mem_of_getElem? (i := 13) rfl))) (mvT hZ (hw _ (List.mem_of_getElem? (i := 14) rfl))) (mvT hZ (hw _ (List.mem_of_getElem? (i := 15) rfl))) (by decide) (backOf (W := 0) (rm_3 l Z a0 hw [] x5 d4 h46 n0 Z46 hd4) hZ (hw _ (List.mem_of_getElem? (i := 15) rfl)) (hw _ (List.mem_of_getElem? (i := 14) rfl)) (by decide) (by decide)) (g := (mkF m 45 #[.val (.int x0), .val (.long x1), .second, .val (.int x2), .val (.int x3), .val (.int x4), .val (.int x5), .val (.int ((x0 &&& (3 : Int32)) + (1 : Int32))), .val (.ref b44), .val (.ref b46), .val (.long d1), .second, .val (.long d2), .second, .val (.long d3), .second, .unset, .unset, .unset, .unset, .unset] [(.int x5)])) rfl (by rw [hml]; rfl) (argsL := [(.int x5)]) (rest := []) (lenOf pd__I_J rfl) rfl (by show 2 * 0 + _ ≤ _; exact Nat.le_of_eq rfl) (hb hby at_45) (fun _ _ => ⟨rfl, e49q, (by decide : 2 + 0 ≤ _), (by decide : 5 + 0 ≤ _)⟩)
  dsimp only [Pt.U, Pt.locs, Pt.cells, Pt.slots] at X50 l50 y50 z50 st50 hQ50
  subst l50 y50 z50
  obtain ⟨rfl, N50q, e50q⟩ := hQ50
  have N50 := Fr.app N49 N50q
  obtain ⟨cq51, kq51, q51a, q51b, q51c⟩ := isOf hZ e50q (E45q.ext E46)
  obtain ⟨_, _, ⟨T51, L51, k51, n51⟩, -, X51, ⟨Lc51, hQ51, l51, y51, z51⟩, st51⟩ := X50.virtualBack hx (y := (⟨"com/example/gated_chorus/gatedchorus/limit/Window", "admit", "(J)I"⟩ : MethodName)) (z := (⟨"com/example/gated_chorus/gatedchorus/limit/Window", "admit", "(J)I"⟩ : MethodName)) hown (mvT hZ (hw _ (List.mem_of_getElem? (i := 18) rfl))) (mvT hZ (hw _ (List.mem_of_getElem? (i := 19) rfl))) (notFace_of_selects (args := #[]) (mvT hZ (hw _ (List.mem_of_getElem? (i := 21) rfl)))) (mvT hZ (hw _ (List.mem_of_getElem? (i := 21) rfl))) (mvT hZ (hw _ (List.mem_of_getElem? (i := 20) rfl))) (by decide) (backOf (W := 0) (rm_4 l Z a0 hw [] b44 x1 (0 : Int64) (0 : Int32) ((x0 &&& (3 : Int32)) + (1 : Int32)) x1 (1 : Int32) (0 : Int32) h46 n0 Z46 (Sta.ext E46 S45_0) (Sta.ext E46 S45_1) (E45q.ext E46) (Fl45q.ext E46) (Fo45q.ext E46) (Fa45q.ext E46) g_b44 (if_pos rfl)) hZ (hw _ (List.mem_of_getElem? (i := 22) rfl)) (hw _ (List.mem_of_getElem? (i := 2) rfl)) (by decide) (by decide)) q51a q51c (g := (mkF m 57 #[.val (.int x0), .val (.long x1), .second, .val (.int x2), .val (.int x3), .val (.int x4), .val (.int x5), .val (.int ((x0 &&& (3 : Int32)) + (1 : Int32))), .val (.ref b44), .val (.ref b46), .val (.long d1), .second, .val (.long d2), .second, .val (.long d3), .second, .val (.long d4), .second, .val (.long x1), .second, .unset] [(.long x1), (.ref b44)])) rfl (by rw [hml]; rfl) (Steps.refl _) (argsL := [(.long x1)]) (rest := []) (lenOf pd__J_I rfl) rfl (by show 2 * 0 + _ ≤ _; exact Nat.le_of_eq rfl) (hb hby at_57) (fun _ _ => ⟨rfl, e50q, (by decide : 2 + 0 ≤ _), (by decide : 5 + 0 ≤ _)⟩)
  dsimp only [Pt.U, Pt.locs, Pt.cells, Pt.slots] at X51 l51 y51 z51 st51 hQ51
  subst l51 y51 z51
  obtain ⟨rfl, N51q, K51q, E51q, Fl51q, Fo51q, Fa51q⟩ := hQ51
  have N51 := Fr.app N50 N51q
  have S51_0 := own_staKeep (Sta.ext E46 S45_0) K51q (nsS ((E45q.ext E46).nostat) ns0)
  have S51_1 := own_staKeep (Sta.ext E46 S45_1) K51q (nsS ((E45q.ext E46).nostat) ns0)
  have K51 : Keep h0 T51.heap [] := K46.trans K51q (allS (P := fun x => x ∈ [] ∨ h0.size ≤ x) (Or.inr sz_b44) all0)
  have Z51 : n0 ≤ T51.heap.size := (Nat.le_trans Z46 K51q.1)
  obtain ⟨c52, Arc52, qc52, Sc52, Mc52, Hsc52, Gc52⟩ := id (V46.keep K51q (ninS (Ne.symm hwa) nin0))
  have hinc52 : ¬ ((0 : Int32) < 0 ∨ c52.slots.size ≤ ((0 : Int32)).toNatClampNeg) := inb_of Sc52 ⟨by decide, by decide⟩
  obtain ⟨T53, h53, X53, e53, W53, st53⟩ := stJ X51 hx hZ rfl Arc52 (j := (0 : Int32)) hinc52 (g := (mkF m 74 #[.val (.int x0), .val (.long x1), .second, .val (.int x2), .val (.int x3), .val (.int x4), .val (.int x5), .val (.int ((x0 &&& (3 : Int32)) + (1 : Int32))), .val (.ref b44), .val (.ref b46), .val (.long d1), .second, .val (.long d2), .second, .val (.long d3), .second, .val (.long d4), .second, .val (.long x1), .second, .val (.int (1 : Int32))] [(.long (0 : Int64)), (.int (0 : Int32)), (.ref b46)])) rfl rfl (hb hby at_74)
  have V53 := Arv.set Arc52 qc52 Sc52 Mc52 Hsc52 Gc52 rfl W53 0 rfl (Nat.le_of_ble_eq_true rfl)
  have K53 : Keep h0 h53 [] := K51.wr W53 (Or.inr sz_b46)
  have N53 := Fr.snoc X53 N51 g_b46
  have Z53 : n0 ≤ h53.size := (Nat.le_trans Z51 (Nat.le_of_eq (Wr.size W53).symm))
  obtain ⟨c54, Arc54, qc54, Sc54, Mc54, Hsc54, Gc54⟩ := id V53
  have hinc54 : ¬ ((1 : Int32) < 0 ∨ c54.slots.size ≤ ((1 : Int32)).toNatClampNeg) := inb_of Sc54 ⟨by decide, by decide⟩
  obtain ⟨T55, h55, X55, e55, W55, st55⟩ := stJ X53 hx hZ e53 Arc54 (j := (1 : Int32)) hinc54 (g := (mkF m 79 #[.val (.int x0), .val (.long x1), .second, .val (.int x2), .val (.int x3), .val (.int x4), .val (.int x5), .val (.int ((x0 &&& (3 : Int32)) + (1 : Int32))), .val (.ref b44), .val (.ref b46), .val (.long d1), .second, .val (.long d2), .second, .val (.long d3), .second, .val (.long d4), .second, .val (.long x1), .second, .val (.int (1 : Int32))] [(.long (1 : Int64)), (.int (1 : Int32)), (.ref b46)])) rfl rfl (hb hby at_79)
  have V55 := Arv.set Arc54 qc54 Sc54 Mc54 Hsc54 Gc54 rfl W55 1 rfl (Nat.le_of_ble_eq_true rfl)
  have K55 : Keep h0 h55 [] := K53.wr W55 (Or.inr sz_b46)
  have N55 := Fr.snoc X55 N53 g_b46
  have Z55 : n0 ≤ h55.size := (Nat.le_trans Z53 (Nat.le_of_eq (Wr.size W55).symm))
  obtain ⟨_, _, ⟨T56, L56, k56, n56⟩, -, X56, ⟨Lc56, hQ56, l56, y56, z56⟩, st56⟩ := Jvm.LawKit.callS X55 hx (y := (⟨"com/example/gated_chorus/gatedchorus/limit/WindowAdmitPinLaw", "step", "(Lcom/example/gated_chorus/gatedchorus/limit/Window;[JJJI)Z"⟩ : MethodName)) hown (mvT hZ (hw _ (List.mem_of_getElem? (i := 27) rfl))) (mvT hZ (hw _ (List.mem_of_getElem? (i := 28) rfl))) (mvT hZ (hw _ (List.mem_of_getElem? (i := 14) rfl))) (mvT hZ (hw _ (List.mem_of_getElem? (i := 29) rfl))) (by decide) (backOf (W := 1) (rm_5 l Z a0 hw [] b44 b46 (x1 + d1) d1 ((x0 &&& (3 : Int32)) + (1 : Int32)) x1 x1 (1 : Int32) (0 : Int64) (1 : Int64) k46 h55 n0 Z55 (Sta.wr W55 (Sta.wr W53 S51_0)) (Sta.wr W55 (Sta.wr W53 S51_1)) ((E51q.wr W53).wr W55) ((Fl51q.other W53 (Or.inl hwa)).other W55 (Or.inl hwa)) ((Fo51q.other W53 (Or.inl hwa)).other W55 (Or.inl hwa)) ((Fa51q.other W53 (Or.inl hwa)).other W55 (Or.inl hwa)) V55 g_b44 g_b46 hwa (own_inv1 x1 (own_lim x0).1 (own_lim x0).2) rfl hdr1.1 hdr1.2) hZ (hw _ (List.mem_of_getElem? (i := 29) rfl)) (hw _ (List.mem_of_getElem? (i := 14) rfl)) (by decide) (by decide)) (g := (mkF m 99 #[.val (.int x0), .val (.long x1), .second, .val (.int x2), .val (.int x3), .val (.int x4), .val (.int x5), .val (.int ((x0 &&& (3 : Int32)) + (1 : Int32))), .val (.ref b44), .val (.ref b46), .val (.long d1), .second, .val (.long d2), .second, .val (.long d3), .second, .val (.long d4), .second, .val (.long (x1 + d1)), .second, .val (.int (1 : Int32))] [(.int ((x0 &&& (3 : Int32)) + (1 : Int32))), (.long d1), (.long (x1 + d1)), (.ref b46), (.ref b44), (.int (1 : Int32))])) rfl (by rw [hml]; rfl) (argsL := [(.ref b44), (.ref b46), (.long (x1 + d1)), (.long d1), (.int ((x0 &&& (3 : Int32)) + (1 : Int32)))]) (rest := [(.int (1 : Int32))]) (lenOf pd__Lcom_example_gated_chorus_gatedchorus_limit_Window__JJJI_Z rfl) rfl (by show 2 * 0 + _ ≤ _; exact Nat.le_of_eq rfl) (hb hby at_99) (fun _ _ => ⟨rfl, e55, (by decide : 2 + 0 ≤ _), (by decide : 5 + 0 ≤ _)⟩)
  dsimp only [Pt.U, Pt.locs, Pt.cells, Pt.slots] at X56 l56 y56 z56 st56 hQ56
  subst l56 y56 z56
  obtain ⟨o56, c56, e_56, cc56, rfl, N56q, K56q, E56q, Fl56q, Fo56q, Fa56q, V56q, I56q⟩ := hQ56
  have N56 := Fr.app N55 N56q
  have S56_0 := own_staKeep (Sta.wr W55 (Sta.wr W53 S51_0)) K56q (nsS (((E51q.wr W53).wr W55).nostat) (nsS (V55.nostat) ns0))
  have S56_1 := own_staKeep (Sta.wr W55 (Sta.wr W53 S51_1)) K56q (nsS (((E51q.wr W53).wr W55).nostat) (nsS (V55.nostat) ns0))
  have K56 : Keep h0 T56.heap [] := K55.trans K56q (allS (P := fun x => x ∈ [] ∨ h0.size ≤ x) (Or.inr sz_b44) (allS (P := fun x => x ∈ [] ∨ h0.size ≤ x) (Or.inr sz_b46) all0))
  have Z56 : n0 ≤ T56.heap.size := (Nat.le_trans Z55 K56q.1)
  obtain ⟨_, _, ⟨T57, L57, k57, n57⟩, -, X57, ⟨Lc57, hQ57, l57, y57, z57⟩, st57⟩ := Jvm.LawKit.callS X56 hx (y := (⟨"com/example/gated_chorus/gatedchorus/limit/WindowAdmitPinLaw", "step", "(Lcom/example/gated_chorus/gatedchorus/limit/Window;[JJJI)Z"⟩ : MethodName)) hown (mvT hZ (hw _ (List.mem_of_getElem? (i := 27) rfl))) (mvT hZ (hw _ (List.mem_of_getElem? (i := 28) rfl))) (mvT hZ (hw _ (List.mem_of_getElem? (i := 14) rfl))) (mvT hZ (hw _ (List.mem_of_getElem? (i := 29) rfl))) (by decide) (backOf (W := 1) (rm_5 l Z a0 hw [] b44 b46 ((x1 + d1) + d2) d2 ((x0 &&& (3 : Int32)) + (1 : Int32)) (x1 + d1) o56 c56 e_56 cc56 k46 T56.heap n0 Z56 S56_0 S56_1 E56q Fl56q Fo56q Fa56q V56q g_b44 g_b46 hwa I56q rfl hdr2.1 hdr2.2) hZ (hw _ (List.mem_of_getElem? (i := 29) rfl)) (hw _ (List.mem_of_getElem? (i := 14) rfl)) (by decide) (by decide)) (g := (mkF m 124 #[.val (.int x0), .val (.long x1), .second, .val (.int x2), .val (.int x3), .val (.int x4), .val (.int x5), .val (.int ((x0 &&& (3 : Int32)) + (1 : Int32))), .val (.ref b44), .val (.ref b46), .val (.long d1), .second, .val (.long d2), .second, .val (.long d3), .second, .val (.long d4), .second, .val (.long ((x1 + d1) + d2)), .second, .val (.int (1 : Int32))] [(.int ((x0 &&& (3 : Int32)) + (1 : Int32))), (.long d2), (.long ((x1 + d1) + d2)), (.ref b46), (.ref b44), (.int (1 : Int32))])) rfl (by rw [hml]; rfl) (argsL := [(.ref b44), (.ref b46), (.long ((x1 + d1) + d2)), (.long d2), (.int ((x0 &&& (3 : Int32)) + (1 : Int32)))]) (rest := [(.int (1 : Int32))]) (lenOf pd__Lcom_example_gated_chorus_gatedchorus_limit_Window__JJJI_Z rfl) rfl (by show 2 * 0 + _ ≤ _; exact Nat.le_of_eq rfl) (hb hby at_124) (fun _ _ => ⟨rfl, rfl, (by decide : 2 + 0 ≤ _), (by decide : 5 + 0 ≤ _)⟩)
  dsimp only [Pt.U, Pt.locs, Pt.cells, Pt.slots] at X57 l57 y57 z57 st57 hQ57
  subst l57 y57 z57
  obtain ⟨o57, c57, e_57, cc57, rfl, N57q, K57q, E57q, Fl57q, Fo57q, Fa57q, V57q, I57q⟩ := hQ57
  have N57 := Fr.app N56 N57q
  have S57_0 := own_staKeep S56_0 K57q (nsS (E56q.nostat) (nsS (V56q.nostat) ns0))
  have S57_1 := own_staKeep S56_1 K57q (nsS (E56q.nostat) (nsS (V56q.nostat) ns0))
  have K57 : Keep h0 T57.heap [] := K56.trans K57q (allS (P := fun x => x ∈ [] ∨ h0.size ≤ x) (Or.inr sz_b44) (allS (P := fun x => x ∈ [] ∨ h0.size ≤ x) (Or.inr sz_b46) all0))
  have Z57 : n0 ≤ T57.heap.size := (Nat.le_trans Z56 K57q.1)
  obtain ⟨_, _, ⟨T58, L58, k58, n58⟩, -, X58, ⟨Lc58, hQ58, l58, y58, z58⟩, st58⟩ := Jvm.LawKit.callS X57 hx (y := (⟨"com/example/gated_chorus/gatedchorus/limit/WindowAdmitPinLaw", "step", "(Lcom/example/gated_chorus/gatedchorus/limit/Window;[JJJI)Z"⟩ : MethodName)) hown (mvT hZ (hw _ (List.mem_of_getElem? (i := 27) rfl))) (mvT hZ (hw _ (List.mem_of_getElem? (i := 28) rfl))) (mvT hZ (hw _ (List.mem_of_getElem? (i := 14) rfl))) (mvT hZ (hw _ (List.mem_of_getElem? (i := 29) rfl))) (by decide) (backOf (W := 1) (rm_5 l Z a0 hw [] b44 b46 (((x1 + d1) + d2) + d3) d3 ((x0 &&& (3 : Int32)) + (1 : Int32)) ((x1 + d1) + d2) o57 c57 e_57 cc57 k46 T57.heap n0 Z57 S57_0 S57_1 E57q Fl57q Fo57q Fa57q V57q g_b44 g_b46 hwa I57q rfl hdr3.1 hdr3.2) hZ (hw _ (List.mem_of_getElem? (i := 29) rfl)) (hw _ (List.mem_of_getElem? (i := 14) rfl)) (by decide) (by decide)) (g := (mkF m 149 #[.val (.int x0), .val (.long x1), .second, .val (.int x2), .val (.int x3), .val (.int x4), .val (.int x5), .val (.int ((x0 &&& (3 : Int32)) + (1 : Int32))), .val (.ref b44), .val (.ref b46), .val (.long d1), .second, .val (.long d2), .second, .val (.long d3), .second, .val (.long d4), .second, .val (.long (((x1 + d1) + d2) + d3)), .second, .val (.int (1 : Int32))] [(.int ((x0 &&& (3 : Int32)) + (1 : Int32))), (.long d3), (.long (((x1 + d1) + d2) + d3)), (.ref b46), (.ref b44), (.int (1 : Int32))])) rfl (by rw [hml]; rfl) (argsL := [(.ref b44), (.ref b46), (.long (((x1 + d1) + d2) + d3)), (.long d3), (.int ((x0 &&& (3 : Int32)) + (1 : Int32)))]) (rest := [(.int (1 : Int32))]) (lenOf pd__Lcom_example_gated_chorus_gatedchorus_limit_Window__JJJI_Z rfl) rfl (by show 2 * 0 + _ ≤ _; exact Nat.le_of_eq rfl) (hb hby at_149) (fun _ _ => ⟨rfl, rfl, (by decide : 2 + 0 ≤ _), (by decide : 5 + 0 ≤ _)⟩)
  dsimp only [Pt.U, Pt.locs, Pt.cells, Pt.slots] at X58 l58 y58 z58 st58 hQ58
  subst l58 y58 z58
  obtain ⟨o58, c58, e_58, cc58, rfl, N58q, K58q, E58q, Fl58q, Fo58q, Fa58q, V58q, I58q⟩ := hQ58
  have N58 := Fr.app N57 N58q
  have S58_0 := own_staKeep S57_0 K58q (nsS (E57q.nostat) (nsS (V57q.nostat) ns0))
  have S58_1 := own_staKeep S57_1 K58q (nsS (E57q.nostat) (nsS (V57q.nostat) ns0))
  have K58 : Keep h0 T58.heap [] := K57.trans K58q (allS (P := fun x => x ∈ [] ∨ h0.size ≤ x) (Or.inr sz_b44) (allS (P := fun x => x ∈ [] ∨ h0.size ≤ x) (Or.inr sz_b46) all0))
  have Z58 : n0 ≤ T58.heap.size := (Nat.le_trans Z57 K58q.1)
  obtain ⟨_, _, ⟨T59, L59, k59, n59⟩, -, X59, ⟨Lc59, hQ59, l59, y59, z59⟩, st59⟩ := Jvm.LawKit.callS X58 hx (y := (⟨"com/example/gated_chorus/gatedchorus/limit/WindowAdmitPinLaw", "step", "(Lcom/example/gated_chorus/gatedchorus/limit/Window;[JJJI)Z"⟩ : MethodName)) hown (mvT hZ (hw _ (List.mem_of_getElem? (i := 27) rfl))) (mvT hZ (hw _ (List.mem_of_getElem? (i := 28) rfl))) (mvT hZ (hw _ (List.mem_of_getElem? (i := 14) rfl))) (mvT hZ (hw _ (List.mem_of_getElem? (i := 29) rfl))) (by decide) (backOf (W := 1) (rm_5 l Z a0 hw [] b44 b46 ((((x1 + d1) + d2) + d3) + d4) d4 ((x0 &&& (3 : Int32)) + (1 : Int32)) (((x1 + d1) + d2) + d3) o58 c58 e_58 cc58 k46 T58.heap n0 Z58 S58_0 S58_1 E58q Fl58q Fo58q Fa58q V58q g_b44 g_b46 hwa I58q rfl hdr4.1 hdr4.2) hZ (hw _ (List.mem_of_getElem? (i := 29) rfl)) (hw _ (List.mem_of_getElem? (i := 14) rfl)) (by decide) (by decide)) (g := (mkF m 174 #[.val (.int x0), .val (.long x1), .second, .val (.int x2), .val (.int x3), .val (.int x4), .val (.int x5), .val (.int ((x0 &&& (3 : Int32)) + (1 : Int32))), .val (.ref b44), .val (.ref b46), .val (.long d1), .second, .val (.long d2), .second, .val (.long d3), .second, .val (.long d4), .second, .val (.long ((((x1 + d1) + d2) + d3) + d4)), .second, .val (.int (1 : Int32))] [(.int ((x0 &&& (3 : Int32)) + (1 : Int32))), (.long d4), (.long ((((x1 + d1) + d2) + d3) + d4)), (.ref b46), (.ref b44), (.int (1 : Int32))])) rfl (by rw [hml]; rfl) (argsL := [(.ref b44), (.ref b46), (.long ((((x1 + d1) + d2) + d3) + d4)), (.long d4), (.int ((x0 &&& (3 : Int32)) + (1 : Int32)))]) (rest := [(.int (1 : Int32))]) (lenOf pd__Lcom_example_gated_chorus_gatedchorus_limit_Window__JJJI_Z rfl) rfl (by show 2 * 0 + _ ≤ _; exact Nat.le_of_eq rfl) (hb hby at_174) (fun _ _ => ⟨rfl, rfl, (by decide : 2 + 0 ≤ _), (by decide : 5 + 0 ≤ _)⟩)
  dsimp only [Pt.U, Pt.locs, Pt.cells, Pt.slots] at X59 l59 y59 z59 st59 hQ59
  subst l59 y59 z59
  obtain ⟨o59, c59, e_59, cc59, rfl, N59q, K59q, E59q, Fl59q, Fo59q, Fa59q, V59q, I59q⟩ := hQ59
  have N59 := Fr.app N58 N59q
  have S59_0 := own_staKeep S58_0 K59q (nsS (E58q.nostat) (nsS (V58q.nostat) ns0))
  have S59_1 := own_staKeep S58_1 K59q (nsS (E58q.nostat) (nsS (V58q.nostat) ns0))
  have K59 : Keep h0 T59.heap [] := K58.trans K59q (allS (P := fun x => x ∈ [] ∨ h0.size ≤ x) (Or.inr sz_b44) (allS (P := fun x => x ∈ [] ∨ h0.size ≤ x) (Or.inr sz_b46) all0))
  have Z59 : n0 ≤ T59.heap.size := (Nat.le_trans Z58 K59q.1)
  obtain ⟨fs, hr, hrun, hended, hW, hsame⟩ := X59.leave (v := some (.int (1 : Int32))) (fun h => by rw [Bd.returns] at h; cases h)
  refine ⟨_, _, pw0 _ ?_, hrun, hended, _, _, rfl, ?_, ⟨_, rfl⟩, hW, hsame.mono (by decide) (by decide)⟩
  · skip
    refine XS.iloadN X0.here hx rfl (hb hby at_0) rfl ?_
    show Steps p.tables e below (s₁.setTop (mkF m 1 #[.val (.int x0), .val (.long x1), .second, .val (.int x2), .val (.int x3), .val (.int x4), .val (.int x5), .unset, .unset, .unset, .unset, .unset, .unset, .unset, .unset, .unset, .unset, .unset, .unset, .unset, .unset] [(.int x0)])) _
    refine XS.iconst X0.here hx rfl (hb hby at_1) ?_
    show Steps p.tables e below (s₁.setTop (mkF m 2 #[.val (.int x0), .val (.long x1), .second, .val (.int x2), .val (.int x3), .val (.int x4), .val (.int x5), .unset, .unset, .unset, .unset, .unset, .unset, .unset, .unset, .unset, .unset, .unset, .unset, .unset, .unset] [(.int (3 : Int32)), (.int x0)])) _
    refine XS.iand X0.here hx rfl (hb hby at_2) rfl ?_
    show Steps p.tables e below (s₁.setTop (mkF m 3 #[.val (.int x0), .val (.long x1), .second, .val (.int x2), .val (.int x3), .val (.int x4), .val (.int x5), .unset, .unset, .unset, .unset, .unset, .unset, .unset, .unset, .unset, .unset, .unset, .unset, .unset, .unset] [(.int (x0 &&& (3 : Int32)))])) _
    refine XS.iconst X0.here hx rfl (hb hby at_3) ?_
    show Steps p.tables e below (s₁.setTop (mkF m 4 #[.val (.int x0), .val (.long x1), .second, .val (.int x2), .val (.int x3), .val (.int x4), .val (.int x5), .unset, .unset, .unset, .unset, .unset, .unset, .unset, .unset, .unset, .unset, .unset, .unset, .unset, .unset] [(.int (1 : Int32)), (.int (x0 &&& (3 : Int32)))])) _
    refine XS.iadd X0.here hx rfl (hb hby at_4) rfl ?_
    show Steps p.tables e below (s₁.setTop (mkF m 5 #[.val (.int x0), .val (.long x1), .second, .val (.int x2), .val (.int x3), .val (.int x4), .val (.int x5), .unset, .unset, .unset, .unset, .unset, .unset, .unset, .unset, .unset, .unset, .unset, .unset, .unset, .unset] [(.int ((x0 &&& (3 : Int32)) + (1 : Int32)))])) _
    refine XS.istore X0.here hx rfl (hb hby at_5) rfl (l' := #[.val (.int x0), .val (.long x1), .second, .val (.int x2), .val (.int x3), .val (.int x4), .val (.int x5), .val (.int ((x0 &&& (3 : Int32)) + (1 : Int32))), .unset, .unset, .unset, .unset, .unset, .unset, .unset, .unset, .unset, .unset, .unset, .unset, .unset]) rfl ?_
    show Steps p.tables e below (s₁.setTop (mkF m 7 #[.val (.int x0), .val (.long x1), .second, .val (.int x2), .val (.int x3), .val (.int x4), .val (.int x5), .val (.int ((x0 &&& (3 : Int32)) + (1 : Int32))), .unset, .unset, .unset, .unset, .unset, .unset, .unset, .unset, .unset, .unset, .unset, .unset, .unset] [])) _
    refine st44 _ ?_
    show Steps p.tables e below (T44.setTop (mkF m 10 #[.val (.int x0), .val (.long x1), .second, .val (.int x2), .val (.int x3), .val (.int x4), .val (.int x5), .val (.int ((x0 &&& (3 : Int32)) + (1 : Int32))), .unset, .unset, .unset, .unset, .unset, .unset, .unset, .unset, .unset, .unset, .unset, .unset, .unset] [(.ref b44)])) _
    refine XS.dup X44.here hx rfl (hb hby at_10) rfl rfl ?_
    show Steps p.tables e below (T44.setTop (mkF m 11 #[.val (.int x0), .val (.long x1), .second, .val (.int x2), .val (.int x3), .val (.int x4), .val (.int x5), .val (.int ((x0 &&& (3 : Int32)) + (1 : Int32))), .unset, .unset, .unset, .unset, .unset, .unset, .unset, .unset, .unset, .unset, .unset, .unset, .unset] [(.ref b44), (.ref b44)])) _
    refine XS.iload X44.here hx rfl (hb hby at_11) rfl ?_
    show Steps p.tables e below (T44.setTop (mkF m 13 #[.val (.int x0), .val (.long x1), .second, .val (.int x2), .val (.int x3), .val (.int x4), .val (.int x5), .val (.int ((x0 &&& (3 : Int32)) + (1 : Int32))), .unset, .unset, .unset, .unset, .unset, .unset, .unset, .unset, .unset, .unset, .unset, .unset, .unset] [(.int ((x0 &&& (3 : Int32)) + (1 : Int32))), (.ref b44), (.ref b44)])) _
    refine st45.trans ?_
    show Steps p.tables e below (T45.setTop (mkF m 16 #[.val (.int x0), .val (.long x1), .second, .val (.int x2), .val (.int x3), .val (.int x4), .val (.int x5), .val (.int ((x0 &&& (3 : Int32)) + (1 : Int32))), .unset, .unset, .unset, .unset, .unset, .unset, .unset, .unset, .unset, .unset, .unset, .unset, .unset] [(.ref b44)])) _
    refine XS.astore X45.here hx rfl (hb hby at_16) rfl rfl (l' := #[.val (.int x0), .val (.long x1), .second, .val (.int x2), .val (.int x3), .val (.int x4), .val (.int x5), .val (.int ((x0 &&& (3 : Int32)) + (1 : Int32))), .val (.ref b44), .unset, .unset, .unset, .unset, .unset, .unset, .unset, .unset, .unset, .unset, .unset, .unset]) rfl ?_
    show Steps p.tables e below (T45.setTop (mkF m 18 #[.val (.int x0), .val (.long x1), .second, .val (.int x2), .val (.int x3), .val (.int x4), .val (.int x5), .val (.int ((x0 &&& (3 : Int32)) + (1 : Int32))), .val (.ref b44), .unset, .unset, .unset, .unset, .unset, .unset, .unset, .unset, .unset, .unset, .unset, .unset] [])) _
    refine XS.iconst X45.here hx rfl (hb hby at_18) ?_
    show Steps p.tables e below (T45.setTop (mkF m 19 #[.val (.int x0), .val (.long x1), .second, .val (.int x2), .val (.int x3), .val (.int x4), .val (.int x5), .val (.int ((x0 &&& (3 : Int32)) + (1 : Int32))), .val (.ref b44), .unset, .unset, .unset, .unset, .unset, .unset, .unset, .unset, .unset, .unset, .unset, .unset] [(.int (2 : Int32))])) _
    refine st46 _ ?_
    show Steps p.tables e below (T46.setTop (mkF m 21 #[.val (.int x0), .val (.long x1), .second, .val (.int x2), .val (.int x3), .val (.int x4), .val (.int x5), .val (.int ((x0 &&& (3 : Int32)) + (1 : Int32))), .val (.ref b44), .unset, .unset, .unset, .unset, .unset, .unset, .unset, .unset, .unset, .unset, .unset, .unset] [(.ref b46)])) _
    refine XS.astore X46.here hx rfl (hb hby at_21) rfl rfl (l' := #[.val (.int x0), .val (.long x1), .second, .val (.int x2), .val (.int x3), .val (.int x4), .val (.int x5), .val (.int ((x0 &&& (3 : Int32)) + (1 : Int32))), .val (.ref b44), .val (.ref b46), .unset, .unset, .unset, .unset, .unset, .unset, .unset, .unset, .unset, .unset, .unset]) rfl ?_
    show Steps p.tables e below (T46.setTop (mkF m 23 #[.val (.int x0), .val (.long x1), .second, .val (.int x2), .val (.int x3), .val (.int x4), .val (.int x5), .val (.int ((x0 &&& (3 : Int32)) + (1 : Int32))), .val (.ref b44), .val (.ref b46), .unset, .unset, .unset, .unset, .unset, .unset, .unset, .unset, .unset, .unset, .unset] [])) _
    refine XS.iloadN X46.here hx rfl (hb hby at_23) rfl ?_
    show Steps p.tables e below (T46.setTop (mkF m 24 #[.val (.int x0), .val (.long x1), .second, .val (.int x2), .val (.int x3), .val (.int x4), .val (.int x5), .val (.int ((x0 &&& (3 : Int32)) + (1 : Int32))), .val (.ref b44), .val (.ref b46), .unset, .unset, .unset, .unset, .unset, .unset, .unset, .unset, .unset, .unset, .unset] [(.int x2)])) _
    refine st47 _ ?_
    show Steps p.tables e below (T47.setTop (mkF m 27 #[.val (.int x0), .val (.long x1), .second, .val (.int x2), .val (.int x3), .val (.int x4), .val (.int x5), .val (.int ((x0 &&& (3 : Int32)) + (1 : Int32))), .val (.ref b44), .val (.ref b46), .unset, .unset, .unset, .unset, .unset, .unset, .unset, .unset, .unset, .unset, .unset] [(.long d1)])) _
    refine XS.lstore X47.here hx rfl (hb hby at_27) rfl (l' := #[.val (.int x0), .val (.long x1), .second, .val (.int x2), .val (.int x3), .val (.int x4), .val (.int x5), .val (.int ((x0 &&& (3 : Int32)) + (1 : Int32))), .val (.ref b44), .val (.ref b46), .val (.long d1), .second, .unset, .unset, .unset, .unset, .unset, .unset, .unset, .unset, .unset]) rfl ?_
    show Steps p.tables e below (T47.setTop (mkF m 29 #[.val (.int x0), .val (.long x1), .second, .val (.int x2), .val (.int x3), .val (.int x4), .val (.int x5), .val (.int ((x0 &&& (3 : Int32)) + (1 : Int32))), .val (.ref b44), .val (.ref b46), .val (.long d1), .second, .unset, .unset, .unset, .unset, .unset, .unset, .unset, .unset, .unset] [])) _
    refine XS.iload X47.here hx rfl (hb hby at_29) rfl ?_
    show Steps p.tables e below (T47.setTop (mkF m 31 #[.val (.int x0), .val (.long x1), .second, .val (.int x2), .val (.int x3), .val (.int x4), .val (.int x5), .val (.int ((x0 &&& (3 : Int32)) + (1 : Int32))), .val (.ref b44), .val (.ref b46), .val (.long d1), .second, .unset, .unset, .unset, .unset, .unset, .unset, .unset, .unset, .unset] [(.int x3)])) _
    refine st48 _ ?_
    show Steps p.tables e below (T48.setTop (mkF m 34 #[.val (.int x0), .val (.long x1), .second, .val (.int x2), .val (.int x3), .val (.int x4), .val (.int x5), .val (.int ((x0 &&& (3 : Int32)) + (1 : Int32))), .val (.ref b44), .val (.ref b46), .val (.long d1), .second, .unset, .unset, .unset, .unset, .unset, .unset, .unset, .unset, .unset] [(.long d2)])) _
    refine XS.lstore X48.here hx rfl (hb hby at_34) rfl (l' := #[.val (.int x0), .val (.long x1), .second, .val (.int x2), .val (.int x3), .val (.int x4), .val (.int x5), .val (.int ((x0 &&& (3 : Int32)) + (1 : Int32))), .val (.ref b44), .val (.ref b46), .val (.long d1), .second, .val (.long d2), .second, .unset, .unset, .unset, .unset, .unset, .unset, .unset]) rfl ?_
    show Steps p.tables e below (T48.setTop (mkF m 36 #[.val (.int x0), .val (.long x1), .second, .val (.int x2), .val (.int x3), .val (.int x4), .val (.int x5), .val (.int ((x0 &&& (3 : Int32)) + (1 : Int32))), .val (.ref b44), .val (.ref b46), .val (.long d1), .second, .val (.long d2), .second, .unset, .unset, .unset, .unset, .unset, .unset, .unset] [])) _
    refine XS.iload X48.here hx rfl (hb hby at_36) rfl ?_
    show Steps p.tables e below (T48.setTop (mkF m 38 #[.val (.int x0), .val (.long x1), .second, .val (.int x2), .val (.int x3), .val (.int x4), .val (.int x5), .val (.int ((x0 &&& (3 : Int32)) + (1 : Int32))), .val (.ref b44), .val (.ref b46), .val (.long d1), .second, .val (.long d2), .second, .unset, .unset, .unset, .unset, .unset, .unset, .unset] [(.int x4)])) _
    refine st49 _ ?_
    show Steps p.tables e below (T49.setTop (mkF m 41 #[.val (.int x0), .val (.long x1), .second, .val (.int x2), .val (.int x3), .val (.int x4), .val (.int x5), .val (.int ((x0 &&& (3 : Int32)) + (1 : Int32))), .val (.ref b44), .val (.ref b46), .val (.long d1), .second, .val (.long d2), .second, .unset, .unset, .unset, .unset, .unset, .unset, .unset] [(.long d3)])) _
    refine XS.lstore X49.here hx rfl (hb hby at_41) rfl (l' := #[.val (.int x0), .val (.long x1), .second, .val (.int x2), .val (.int x3), .val (.int x4), .val (.int x5), .val (.int ((x0 &&& (3 : Int32)) + (1 : Int32))), .val (.ref b44), .val (.ref b46), .val (.long d1), .second, .val (.long d2), .second, .val (.long d3), .second, .unset, .unset, .unset, .unset, .unset]) rfl ?_
    show Steps p.tables e below (T49.setTop (mkF m 43 #[.val (.int x0), .val (.long x1), .second, .val (.int x2), .val (.int x3), .val (.int x4), .val (.int x5), .val (.int ((x0 &&& (3 : Int32)) + (1 : Int32))), .val (.ref b44), .val (.ref b46), .val (.long d1), .second, .val (.long d2), .second, .val (.long d3), .second, .unset, .unset, .unset, .unset, .unset] [])) _
    refine XS.iload X49.here hx rfl (hb hby at_43) rfl ?_
    show Steps p.tables e below (T49.setTop (mkF m 45 #[.val (.int x0), .val (.long x1), .second, .val (.int x2), .val (.int x3), .val (.int x4), .val (.int x5), .val (.int ((x0 &&& (3 : Int32)) + (1 : Int32))), .val (.ref b44), .val (.ref b46), .val (.long d1), .second, .val (.long d2), .second, .val (.long d3), .second, .unset, .unset, .unset, .unset, .unset] [(.int x5)])) _
    refine st50 _ ?_
    show Steps p.tables e below (T50.setTop (mkF m 48 #[.val (.int x0), .val (.long x1), .second, .val (.int x2), .val (.int x3), .val (.int x4), .val (.int x5), .val (.int ((x0 &&& (3 : Int32)) + (1 : Int32))), .val (.ref b44), .val (.ref b46), .val (.long d1), .second, .val (.long d2), .second, .val (.long d3), .second, .unset, .unset, .unset, .unset, .unset] [(.long d4)])) _
    refine XS.lstore X50.here hx rfl (hb hby at_48) rfl (l' := #[.val (.int x0), .val (.long x1), .second, .val (.int x2), .val (.int x3), .val (.int x4), .val (.int x5), .val (.int ((x0 &&& (3 : Int32)) + (1 : Int32))), .val (.ref b44), .val (.ref b46), .val (.long d1), .second, .val (.long d2), .second, .val (.long d3), .second, .val (.long d4), .second, .unset, .unset, .unset]) rfl ?_
    show Steps p.tables e below (T50.setTop (mkF m 50 #[.val (.int x0), .val (.long x1), .second, .val (.int x2), .val (.int x3), .val (.int x4), .val (.int x5), .val (.int ((x0 &&& (3 : Int32)) + (1 : Int32))), .val (.ref b44), .val (.ref b46), .val (.long d1), .second, .val (.long d2), .second, .val (.long d3), .second, .val (.long d4), .second, .unset, .unset, .unset] [])) _
    refine XS.lloadN X50.here hx rfl (hb hby at_50) rfl ?_
    show Steps p.tables e below (T50.setTop (mkF m 51 #[.val (.int x0), .val (.long x1), .second, .val (.int x2), .val (.int x3), .val (.int x4), .val (.int x5), .val (.int ((x0 &&& (3 : Int32)) + (1 : Int32))), .val (.ref b44), .val (.ref b46), .val (.long d1), .second, .val (.long d2), .second, .val (.long d3), .second, .val (.long d4), .second, .unset, .unset, .unset] [(.long x1)])) _
    refine XS.lstore X50.here hx rfl (hb hby at_51) rfl (l' := #[.val (.int x0), .val (.long x1), .second, .val (.int x2), .val (.int x3), .val (.int x4), .val (.int x5), .val (.int ((x0 &&& (3 : Int32)) + (1 : Int32))), .val (.ref b44), .val (.ref b46), .val (.long d1), .second, .val (.long d2), .second, .val (.long d3), .second, .val (.long d4), .second, .val (.long x1), .second, .unset]) rfl ?_
    show Steps p.tables e below (T50.setTop (mkF m 53 #[.val (.int x0), .val (.long x1), .second, .val (.int x2), .val (.int x3), .val (.int x4), .val (.int x5), .val (.int ((x0 &&& (3 : Int32)) + (1 : Int32))), .val (.ref b44), .val (.ref b46), .val (.long d1), .second, .val (.long d2), .second, .val (.long d3), .second, .val (.long d4), .second, .val (.long x1), .second, .unset] [])) _
    refine XS.aload X50.here hx rfl (hb hby at_53) rfl rfl ?_
    show Steps p.tables e below (T50.setTop (mkF m 55 #[.val (.int x0), .val (.long x1), .second, .val (.int x2), .val (.int x3), .val (.int x4), .val (.int x5), .val (.int ((x0 &&& (3 : Int32)) + (1 : Int32))), .val (.ref b44), .val (.ref b46), .val (.long d1), .second, .val (.long d2), .second, .val (.long d3), .second, .val (.long d4), .second, .val (.long x1), .second, .unset] [(.ref b44)])) _
    refine XS.lload X50.here hx rfl (hb hby at_55) rfl ?_
    show Steps p.tables e below (T50.setTop (mkF m 57 #[.val (.int x0), .val (.long x1), .second, .val (.int x2), .val (.int x3), .val (.int x4), .val (.int x5), .val (.int ((x0 &&& (3 : Int32)) + (1 : Int32))), .val (.ref b44), .val (.ref b46), .val (.long d1), .second, .val (.long d2), .second, .val (.long d3), .second, .val (.long d4), .second, .val (.long x1), .second, .unset] [(.long x1), (.ref b44)])) _
    refine st51.trans ?_
    show Steps p.tables e below (T51.setTop (mkF m 60 #[.val (.int x0), .val (.long x1), .second, .val (.int x2), .val (.int x3), .val (.int x4), .val (.int x5), .val (.int ((x0 &&& (3 : Int32)) + (1 : Int32))), .val (.ref b44), .val (.ref b46), .val (.long d1), .second, .val (.long d2), .second, .val (.long d3), .second, .val (.long d4), .second, .val (.long x1), .second, .unset] [(.int (0 : Int32))])) _
    refine XS.ifNo X51.here hx rfl (hb hby at_60) rfl ((if0 _ _).trans (teq (by decide : (0 : Int32) = (0 : Int32))).2) ?_
    show Steps p.tables e below (T51.setTop (mkF m 63 #[.val (.int x0), .val (.long x1), .second, .val (.int x2), .val (.int x3), .val (.int x4), .val (.int x5), .val (.int ((x0 &&& (3 : Int32)) + (1 : Int32))), .val (.ref b44), .val (.ref b46), .val (.long d1), .second, .val (.long d2), .second, .val (.long d3), .second, .val (.long d4), .second, .val (.long x1), .second, .unset] [])) _
    refine XS.iconst X51.here hx rfl (hb hby at_63) ?_
    show Steps p.tables e below (T51.setTop (mkF m 64 #[.val (.int x0), .val (.long x1), .second, .val (.int x2), .val (.int x3), .val (.int x4), .val (.int x5), .val (.int ((x0 &&& (3 : Int32)) + (1 : Int32))), .val (.ref b44), .val (.ref b46), .val (.long d1), .second, .val (.long d2), .second, .val (.long d3), .second, .val (.long d4), .second, .val (.long x1), .second, .unset] [(.int (1 : Int32))])) _
    refine XS.goto X51.here hx rfl (pc0 := 64) (pc' := 68) rfl (hb hby at_64) (by decide) (by decide) ?_
    show Steps p.tables e below (T51.setTop (mkF m 68 #[.val (.int x0), .val (.long x1), .second, .val (.int x2), .val (.int x3), .val (.int x4), .val (.int x5), .val (.int ((x0 &&& (3 : Int32)) + (1 : Int32))), .val (.ref b44), .val (.ref b46), .val (.long d1), .second, .val (.long d2), .second, .val (.long d3), .second, .val (.long d4), .second, .val (.long x1), .second, .unset] [(.int (1 : Int32))])) _
    refine XS.istore X51.here hx rfl (hb hby at_68) rfl (l' := #[.val (.int x0), .val (.long x1), .second, .val (.int x2), .val (.int x3), .val (.int x4), .val (.int x5), .val (.int ((x0 &&& (3 : Int32)) + (1 : Int32))), .val (.ref b44), .val (.ref b46), .val (.long d1), .second, .val (.long d2), .second, .val (.long d3), .second, .val (.long d4), .second, .val (.long x1), .second, .val (.int (1 : Int32))]) rfl ?_
    show Steps p.tables e below (T51.setTop (mkF m 70 #[.val (.int x0), .val (.long x1), .second, .val (.int x2), .val (.int x3), .val (.int x4), .val (.int x5), .val (.int ((x0 &&& (3 : Int32)) + (1 : Int32))), .val (.ref b44), .val (.ref b46), .val (.long d1), .second, .val (.long d2), .second, .val (.long d3), .second, .val (.long d4), .second, .val (.long x1), .second, .val (.int (1 : Int32))] [])) _
    refine XS.aload X51.here hx rfl (hb hby at_70) rfl rfl ?_
    show Steps p.tables e below (T51.setTop (mkF m 72 #[.val (.int x0), .val (.long x1), .second, .val (.int x2), .val (.int x3), .val (.int x4), .val (.int x5), .val (.int ((x0 &&& (3 : Int32)) + (1 : Int32))), .val (.ref b44), .val (.ref b46), .val (.long d1), .second, .val (.long d2), .second, .val (.long d3), .second, .val (.long d4), .second, .val (.long x1), .second, .val (.int (1 : Int32))] [(.ref b46)])) _
    refine XS.iconst X51.here hx rfl (hb hby at_72) ?_
    show Steps p.tables e below (T51.setTop (mkF m 73 #[.val (.int x0), .val (.long x1), .second, .val (.int x2), .val (.int x3), .val (.int x4), .val (.int x5), .val (.int ((x0 &&& (3 : Int32)) + (1 : Int32))), .val (.ref b44), .val (.ref b46), .val (.long d1), .second, .val (.long d2), .second, .val (.long d3), .second, .val (.long d4), .second, .val (.long x1), .second, .val (.int (1 : Int32))] [(.int (0 : Int32)), (.ref b46)])) _
    refine XS.lconst X51.here hx rfl (hb hby at_73) ?_
    show Steps p.tables e below (T51.setTop (mkF m 74 #[.val (.int x0), .val (.long x1), .second, .val (.int x2), .val (.int x3), .val (.int x4), .val (.int x5), .val (.int ((x0 &&& (3 : Int32)) + (1 : Int32))), .val (.ref b44), .val (.ref b46), .val (.long d1), .second, .val (.long d2), .second, .val (.long d3), .second, .val (.long d4), .second, .val (.long x1), .second, .val (.int (1 : Int32))] [(.long (0 : Int64)), (.int (0 : Int32)), (.ref b46)])) _
    refine st53 _ ?_
    show Steps p.tables e below (T53.setTop (mkF m 75 #[.val (.int x0), .val (.long x1), .second, .val (.int x2), .val (.int x3), .val (.int x4), .val (.int x5), .val (.int ((x0 &&& (3 : Int32)) + (1 : Int32))), .val (.ref b44), .val (.ref b46), .val (.long d1), .second, .val (.long d2), .second, .val (.long d3), .second, .val (.long d4), .second, .val (.long x1), .second, .val (.int (1 : Int32))] [])) _
    refine XS.aload X53.here hx rfl (hb hby at_75) rfl rfl ?_
    show Steps p.tables e below (T53.setTop (mkF m 77 #[.val (.int x0), .val (.long x1), .second, .val (.int x2), .val (.int x3), .val (.int x4), .val (.int x5), .val (.int ((x0 &&& (3 : Int32)) + (1 : Int32))), .val (.ref b44), .val (.ref b46), .val (.long d1), .second, .val (.long d2), .second, .val (.long d3), .second, .val (.long d4), .second, .val (.long x1), .second, .val (.int (1 : Int32))] [(.ref b46)])) _
    refine XS.iconst X53.here hx rfl (hb hby at_77) ?_
    show Steps p.tables e below (T53.setTop (mkF m 78 #[.val (.int x0), .val (.long x1), .second, .val (.int x2), .val (.int x3), .val (.int x4), .val (.int x5), .val (.int ((x0 &&& (3 : Int32)) + (1 : Int32))), .val (.ref b44), .val (.ref b46), .val (.long d1), .second, .val (.long d2), .second, .val (.long d3), .second, .val (.long d4), .second, .val (.long x1), .second, .val (.int (1 : Int32))] [(.int (1 : Int32)), (.ref b46)])) _
    refine XS.lconst X53.here hx rfl (hb hby at_78) ?_
    show Steps p.tables e below (T53.setTop (mkF m 79 #[.val (.int x0), .val (.long x1), .second, .val (.int x2), .val (.int x3), .val (.int x4), .val (.int x5), .val (.int ((x0 &&& (3 : Int32)) + (1 : Int32))), .val (.ref b44), .val (.ref b46), .val (.long d1), .second, .val (.long d2), .second, .val (.long d3), .second, .val (.long d4), .second, .val (.long x1), .second, .val (.int (1 : Int32))] [(.long (1 : Int64)), (.int (1 : Int32)), (.ref b46)])) _
    refine st55 _ ?_
    show Steps p.tables e below (T55.setTop (mkF m 80 #[.val (.int x0), .val (.long x1), .second, .val (.int x2), .val (.int x3), .val (.int x4), .val (.int x5), .val (.int ((x0 &&& (3 : Int32)) + (1 : Int32))), .val (.ref b44), .val (.ref b46), .val (.long d1), .second, .val (.long d2), .second, .val (.long d3), .second, .val (.long d4), .second, .val (.long x1), .second, .val (.int (1 : Int32))] [])) _
    refine XS.lload X55.here hx rfl (hb hby at_80) rfl ?_
    show Steps p.tables e below (T55.setTop (mkF m 82 #[.val (.int x0), .val (.long x1), .second, .val (.int x2), .val (.int x3), .val (.int x4), .val (.int x5), .val (.int ((x0 &&& (3 : Int32)) + (1 : Int32))), .val (.ref b44), .val (.ref b46), .val (.long d1), .second, .val (.long d2), .second, .val (.long d3), .second, .val (.long d4), .second, .val (.long x1), .second, .val (.int (1 : Int32))] [(.long x1)])) _
    refine XS.lload X55.here hx rfl (hb hby at_82) rfl ?_
    show Steps p.tables e below (T55.setTop (mkF m 84 #[.val (.int x0), .val (.long x1), .second, .val (.int x2), .val (.int x3), .val (.int x4), .val (.int x5), .val (.int ((x0 &&& (3 : Int32)) + (1 : Int32))), .val (.ref b44), .val (.ref b46), .val (.long d1), .second, .val (.long d2), .second, .val (.long d3), .second, .val (.long d4), .second, .val (.long x1), .second, .val (.int (1 : Int32))] [(.long d1), (.long x1)])) _
    refine XS.ladd X55.here hx rfl (hb hby at_84) rfl ?_
    show Steps p.tables e below (T55.setTop (mkF m 85 #[.val (.int x0), .val (.long x1), .second, .val (.int x2), .val (.int x3), .val (.int x4), .val (.int x5), .val (.int ((x0 &&& (3 : Int32)) + (1 : Int32))), .val (.ref b44), .val (.ref b46), .val (.long d1), .second, .val (.long d2), .second, .val (.long d3), .second, .val (.long d4), .second, .val (.long x1), .second, .val (.int (1 : Int32))] [(.long (x1 + d1))])) _
    refine XS.lstore X55.here hx rfl (hb hby at_85) rfl (l' := #[.val (.int x0), .val (.long x1), .second, .val (.int x2), .val (.int x3), .val (.int x4), .val (.int x5), .val (.int ((x0 &&& (3 : Int32)) + (1 : Int32))), .val (.ref b44), .val (.ref b46), .val (.long d1), .second, .val (.long d2), .second, .val (.long d3), .second, .val (.long d4), .second, .val (.long (x1 + d1)), .second, .val (.int (1 : Int32))]) rfl ?_
    show Steps p.tables e below (T55.setTop (mkF m 87 #[.val (.int x0), .val (.long x1), .second, .val (.int x2), .val (.int x3), .val (.int x4), .val (.int x5), .val (.int ((x0 &&& (3 : Int32)) + (1 : Int32))), .val (.ref b44), .val (.ref b46), .val (.long d1), .second, .val (.long d2), .second, .val (.long d3), .second, .val (.long d4), .second, .val (.long (x1 + d1)), .second, .val (.int (1 : Int32))] [])) _
    refine XS.iload X55.here hx rfl (hb hby at_87) rfl ?_
    show Steps p.tables e below (T55.setTop (mkF m 89 #[.val (.int x0), .val (.long x1), .second, .val (.int x2), .val (.int x3), .val (.int x4), .val (.int x5), .val (.int ((x0 &&& (3 : Int32)) + (1 : Int32))), .val (.ref b44), .val (.ref b46), .val (.long d1), .second, .val (.long d2), .second, .val (.long d3), .second, .val (.long d4), .second, .val (.long (x1 + d1)), .second, .val (.int (1 : Int32))] [(.int (1 : Int32))])) _
    refine XS.aload X55.here hx rfl (hb hby at_89) rfl rfl ?_
    show Steps p.tables e below (T55.setTop (mkF m 91 #[.val (.int x0), .val (.long x1), .second, .val (.int x2), .val (.int x3), .val (.int x4), .val (.int x5), .val (.int ((x0 &&& (3 : Int32)) + (1 : Int32))), .val (.ref b44), .val (.ref b46), .val (.long d1), .second, .val (.long d2), .second, .val (.long d3), .second, .val (.long d4), .second, .val (.long (x1 + d1)), .second, .val (.int (1 : Int32))] [(.ref b44), (.int (1 : Int32))])) _
    refine XS.aload X55.here hx rfl (hb hby at_91) rfl rfl ?_
    show Steps p.tables e below (T55.setTop (mkF m 93 #[.val (.int x0), .val (.long x1), .second, .val (.int x2), .val (.int x3), .val (.int x4), .val (.int x5), .val (.int ((x0 &&& (3 : Int32)) + (1 : Int32))), .val (.ref b44), .val (.ref b46), .val (.long d1), .second, .val (.long d2), .second, .val (.long d3), .second, .val (.long d4), .second, .val (.long (x1 + d1)), .second, .val (.int (1 : Int32))] [(.ref b46), (.ref b44), (.int (1 : Int32))])) _
    refine XS.lload X55.here hx rfl (hb hby at_93) rfl ?_
    show Steps p.tables e below (T55.setTop (mkF m 95 #[.val (.int x0), .val (.long x1), .second, .val (.int x2), .val (.int x3), .val (.int x4), .val (.int x5), .val (.int ((x0 &&& (3 : Int32)) + (1 : Int32))), .val (.ref b44), .val (.ref b46), .val (.long d1), .second, .val (.long d2), .second, .val (.long d3), .second, .val (.long d4), .second, .val (.long (x1 + d1)), .second, .val (.int (1 : Int32))] [(.long (x1 + d1)), (.ref b46), (.ref b44), (.int (1 : Int32))])) _
    refine XS.lload X55.here hx rfl (hb hby at_95) rfl ?_
    show Steps p.tables e below (T55.setTop (mkF m 97 #[.val (.int x0), .val (.long x1), .second, .val (.int x2), .val (.int x3), .val (.int x4), .val (.int x5), .val (.int ((x0 &&& (3 : Int32)) + (1 : Int32))), .val (.ref b44), .val (.ref b46), .val (.long d1), .second, .val (.long d2), .second, .val (.long d3), .second, .val (.long d4), .second, .val (.long (x1 + d1)), .second, .val (.int (1 : Int32))] [(.long d1), (.long (x1 + d1)), (.ref b46), (.ref b44), (.int (1 : Int32))])) _
    refine XS.iload X55.here hx rfl (hb hby at_97) rfl ?_
    show Steps p.tables e below (T55.setTop (mkF m 99 #[.val (.int x0), .val (.long x1), .second, .val (.int x2), .val (.int x3), .val (.int x4), .val (.int x5), .val (.int ((x0 &&& (3 : Int32)) + (1 : Int32))), .val (.ref b44), .val (.ref b46), .val (.long d1), .second, .val (.long d2), .second, .val (.long d3), .second, .val (.long d4), .second, .val (.long (x1 + d1)), .second, .val (.int (1 : Int32))] [(.int ((x0 &&& (3 : Int32)) + (1 : Int32))), (.long d1), (.long (x1 + d1)), (.ref b46), (.ref b44), (.int (1 : Int32))])) _
    refine st56 _ ?_
    show Steps p.tables e below (T56.setTop (mkF m 102 #[.val (.int x0), .val (.long x1), .second, .val (.int x2), .val (.int x3), .val (.int x4), .val (.int x5), .val (.int ((x0 &&& (3 : Int32)) + (1 : Int32))), .val (.ref b44), .val (.ref b46), .val (.long d1), .second, .val (.long d2), .second, .val (.long d3), .second, .val (.long d4), .second, .val (.long (x1 + d1)), .second, .val (.int (1 : Int32))] [(.int (1 : Int32)), (.int (1 : Int32))])) _
    refine XS.iand X56.here hx rfl (hb hby at_102) rfl ?_
    show Steps p.tables e below (T56.setTop (mkF m 103 #[.val (.int x0), .val (.long x1), .second, .val (.int x2), .val (.int x3), .val (.int x4), .val (.int x5), .val (.int ((x0 &&& (3 : Int32)) + (1 : Int32))), .val (.ref b44), .val (.ref b46), .val (.long d1), .second, .val (.long d2), .second, .val (.long d3), .second, .val (.long d4), .second, .val (.long (x1 + d1)), .second, .val (.int (1 : Int32))] [(.int (1 : Int32))])) _
    refine XS.istore X56.here hx rfl (hb hby at_103) rfl (l' := #[.val (.int x0), .val (.long x1), .second, .val (.int x2), .val (.int x3), .val (.int x4), .val (.int x5), .val (.int ((x0 &&& (3 : Int32)) + (1 : Int32))), .val (.ref b44), .val (.ref b46), .val (.long d1), .second, .val (.long d2), .second, .val (.long d3), .second, .val (.long d4), .second, .val (.long (x1 + d1)), .second, .val (.int (1 : Int32))]) rfl ?_
    show Steps p.tables e below (T56.setTop (mkF m 105 #[.val (.int x0), .val (.long x1), .second, .val (.int x2), .val (.int x3), .val (.int x4), .val (.int x5), .val (.int ((x0 &&& (3 : Int32)) + (1 : Int32))), .val (.ref b44), .val (.ref b46), .val (.long d1), .second, .val (.long d2), .second, .val (.long d3), .second, .val (.long d4), .second, .val (.long (x1 + d1)), .second, .val (.int (1 : Int32))] [])) _
    refine XS.lload X56.here hx rfl (hb hby at_105) rfl ?_
    show Steps p.tables e below (T56.setTop (mkF m 107 #[.val (.int x0), .val (.long x1), .second, .val (.int x2), .val (.int x3), .val (.int x4), .val (.int x5), .val (.int ((x0 &&& (3 : Int32)) + (1 : Int32))), .val (.ref b44), .val (.ref b46), .val (.long d1), .second, .val (.long d2), .second, .val (.long d3), .second, .val (.long d4), .second, .val (.long (x1 + d1)), .second, .val (.int (1 : Int32))] [(.long (x1 + d1))])) _
    refine XS.lload X56.here hx rfl (hb hby at_107) rfl ?_
    show Steps p.tables e below (T56.setTop (mkF m 109 #[.val (.int x0), .val (.long x1), .second, .val (.int x2), .val (.int x3), .val (.int x4), .val (.int x5), .val (.int ((x0 &&& (3 : Int32)) + (1 : Int32))), .val (.ref b44), .val (.ref b46), .val (.long d1), .second, .val (.long d2), .second, .val (.long d3), .second, .val (.long d4), .second, .val (.long (x1 + d1)), .second, .val (.int (1 : Int32))] [(.long d2), (.long (x1 + d1))])) _
    refine XS.ladd X56.here hx rfl (hb hby at_109) rfl ?_
    show Steps p.tables e below (T56.setTop (mkF m 110 #[.val (.int x0), .val (.long x1), .second, .val (.int x2), .val (.int x3), .val (.int x4), .val (.int x5), .val (.int ((x0 &&& (3 : Int32)) + (1 : Int32))), .val (.ref b44), .val (.ref b46), .val (.long d1), .second, .val (.long d2), .second, .val (.long d3), .second, .val (.long d4), .second, .val (.long (x1 + d1)), .second, .val (.int (1 : Int32))] [(.long ((x1 + d1) + d2))])) _
    refine XS.lstore X56.here hx rfl (hb hby at_110) rfl (l' := #[.val (.int x0), .val (.long x1), .second, .val (.int x2), .val (.int x3), .val (.int x4), .val (.int x5), .val (.int ((x0 &&& (3 : Int32)) + (1 : Int32))), .val (.ref b44), .val (.ref b46), .val (.long d1), .second, .val (.long d2), .second, .val (.long d3), .second, .val (.long d4), .second, .val (.long ((x1 + d1) + d2)), .second, .val (.int (1 : Int32))]) rfl ?_
    show Steps p.tables e below (T56.setTop (mkF m 112 #[.val (.int x0), .val (.long x1), .second, .val (.int x2), .val (.int x3), .val (.int x4), .val (.int x5), .val (.int ((x0 &&& (3 : Int32)) + (1 : Int32))), .val (.ref b44), .val (.ref b46), .val (.long d1), .second, .val (.long d2), .second, .val (.long d3), .second, .val (.long d4), .second, .val (.long ((x1 + d1) + d2)), .second, .val (.int (1 : Int32))] [])) _
    refine XS.iload X56.here hx rfl (hb hby at_112) rfl ?_
    show Steps p.tables e below (T56.setTop (mkF m 114 #[.val (.int x0), .val (.long x1), .second, .val (.int x2), .val (.int x3), .val (.int x4), .val (.int x5), .val (.int ((x0 &&& (3 : Int32)) + (1 : Int32))), .val (.ref b44), .val (.ref b46), .val (.long d1), .second, .val (.long d2), .second, .val (.long d3), .second, .val (.long d4), .second, .val (.long ((x1 + d1) + d2)), .second, .val (.int (1 : Int32))] [(.int (1 : Int32))])) _
    refine XS.aload X56.here hx rfl (hb hby at_114) rfl rfl ?_
    show Steps p.tables e below (T56.setTop (mkF m 116 #[.val (.int x0), .val (.long x1), .second, .val (.int x2), .val (.int x3), .val (.int x4), .val (.int x5), .val (.int ((x0 &&& (3 : Int32)) + (1 : Int32))), .val (.ref b44), .val (.ref b46), .val (.long d1), .second, .val (.long d2), .second, .val (.long d3), .second, .val (.long d4), .second, .val (.long ((x1 + d1) + d2)), .second, .val (.int (1 : Int32))] [(.ref b44), (.int (1 : Int32))])) _
    refine XS.aload X56.here hx rfl (hb hby at_116) rfl rfl ?_
    show Steps p.tables e below (T56.setTop (mkF m 118 #[.val (.int x0), .val (.long x1), .second, .val (.int x2), .val (.int x3), .val (.int x4), .val (.int x5), .val (.int ((x0 &&& (3 : Int32)) + (1 : Int32))), .val (.ref b44), .val (.ref b46), .val (.long d1), .second, .val (.long d2), .second, .val (.long d3), .second, .val (.long d4), .second, .val (.long ((x1 + d1) + d2)), .second, .val (.int (1 : Int32))] [(.ref b46), (.ref b44), (.int (1 : Int32))])) _
    refine XS.lload X56.here hx rfl (hb hby at_118) rfl ?_
    show Steps p.tables e below (T56.setTop (mkF m 120 #[.val (.int x0), .val (.long x1), .second, .val (.int x2), .val (.int x3), .val (.int x4), .val (.int x5), .val (.int ((x0 &&& (3 : Int32)) + (1 : Int32))), .val (.ref b44), .val (.ref b46), .val (.long d1), .second, .val (.long d2), .second, .val (.long d3), .second, .val (.long d4), .second, .val (.long ((x1 + d1) + d2)), .second, .val (.int (1 : Int32))] [(.long ((x1 + d1) + d2)), (.ref b46), (.ref b44), (.int (1 : Int32))])) _
    refine XS.lload X56.here hx rfl (hb hby at_120) rfl ?_
    show Steps p.tables e below (T56.setTop (mkF m 122 #[.val (.int x0), .val (.long x1), .second, .val (.int x2), .val (.int x3), .val (.int x4), .val (.int x5), .val (.int ((x0 &&& (3 : Int32)) + (1 : Int32))), .val (.ref b44), .val (.ref b46), .val (.long d1), .second, .val (.long d2), .second, .val (.long d3), .second, .val (.long d4), .second, .val (.long ((x1 + d1) + d2)), .second, .val (.int (1 : Int32))] [(.long d2), (.long ((x1 + d1) + d2)), (.ref b46), (.ref b44), (.int (1 : Int32))])) _
    refine XS.iload X56.here hx rfl (hb hby at_122) rfl ?_
    show Steps p.tables e below (T56.setTop (mkF m 124 #[.val (.int x0), .val (.long x1), .second, .val (.int x2), .val (.int x3), .val (.int x4), .val (.int x5), .val (.int ((x0 &&& (3 : Int32)) + (1 : Int32))), .val (.ref b44), .val (.ref b46), .val (.long d1), .second, .val (.long d2), .second, .val (.long d3), .second, .val (.long d4), .second, .val (.long ((x1 + d1) + d2)), .second, .val (.int (1 : Int32))] [(.int ((x0 &&& (3 : Int32)) + (1 : Int32))), (.long d2), (.long ((x1 + d1) + d2)), (.ref b46), (.ref b44), (.int (1 : Int32))])) _
    refine st57 _ ?_
    show Steps p.tables e below (T57.setTop (mkF m 127 #[.val (.int x0), .val (.long x1), .second, .val (.int x2), .val (.int x3), .val (.int x4), .val (.int x5), .val (.int ((x0 &&& (3 : Int32)) + (1 : Int32))), .val (.ref b44), .val (.ref b46), .val (.long d1), .second, .val (.long d2), .second, .val (.long d3), .second, .val (.long d4), .second, .val (.long ((x1 + d1) + d2)), .second, .val (.int (1 : Int32))] [(.int (1 : Int32)), (.int (1 : Int32))])) _
    refine XS.iand X57.here hx rfl (hb hby at_127) rfl ?_
    show Steps p.tables e below (T57.setTop (mkF m 128 #[.val (.int x0), .val (.long x1), .second, .val (.int x2), .val (.int x3), .val (.int x4), .val (.int x5), .val (.int ((x0 &&& (3 : Int32)) + (1 : Int32))), .val (.ref b44), .val (.ref b46), .val (.long d1), .second, .val (.long d2), .second, .val (.long d3), .second, .val (.long d4), .second, .val (.long ((x1 + d1) + d2)), .second, .val (.int (1 : Int32))] [(.int (1 : Int32))])) _
    refine XS.istore X57.here hx rfl (hb hby at_128) rfl (l' := #[.val (.int x0), .val (.long x1), .second, .val (.int x2), .val (.int x3), .val (.int x4), .val (.int x5), .val (.int ((x0 &&& (3 : Int32)) + (1 : Int32))), .val (.ref b44), .val (.ref b46), .val (.long d1), .second, .val (.long d2), .second, .val (.long d3), .second, .val (.long d4), .second, .val (.long ((x1 + d1) + d2)), .second, .val (.int (1 : Int32))]) rfl ?_
    show Steps p.tables e below (T57.setTop (mkF m 130 #[.val (.int x0), .val (.long x1), .second, .val (.int x2), .val (.int x3), .val (.int x4), .val (.int x5), .val (.int ((x0 &&& (3 : Int32)) + (1 : Int32))), .val (.ref b44), .val (.ref b46), .val (.long d1), .second, .val (.long d2), .second, .val (.long d3), .second, .val (.long d4), .second, .val (.long ((x1 + d1) + d2)), .second, .val (.int (1 : Int32))] [])) _
    refine XS.lload X57.here hx rfl (hb hby at_130) rfl ?_
    show Steps p.tables e below (T57.setTop (mkF m 132 #[.val (.int x0), .val (.long x1), .second, .val (.int x2), .val (.int x3), .val (.int x4), .val (.int x5), .val (.int ((x0 &&& (3 : Int32)) + (1 : Int32))), .val (.ref b44), .val (.ref b46), .val (.long d1), .second, .val (.long d2), .second, .val (.long d3), .second, .val (.long d4), .second, .val (.long ((x1 + d1) + d2)), .second, .val (.int (1 : Int32))] [(.long ((x1 + d1) + d2))])) _
    refine XS.lload X57.here hx rfl (hb hby at_132) rfl ?_
    show Steps p.tables e below (T57.setTop (mkF m 134 #[.val (.int x0), .val (.long x1), .second, .val (.int x2), .val (.int x3), .val (.int x4), .val (.int x5), .val (.int ((x0 &&& (3 : Int32)) + (1 : Int32))), .val (.ref b44), .val (.ref b46), .val (.long d1), .second, .val (.long d2), .second, .val (.long d3), .second, .val (.long d4), .second, .val (.long ((x1 + d1) + d2)), .second, .val (.int (1 : Int32))] [(.long d3), (.long ((x1 + d1) + d2))])) _
    refine XS.ladd X57.here hx rfl (hb hby at_134) rfl ?_
    show Steps p.tables e below (T57.setTop (mkF m 135 #[.val (.int x0), .val (.long x1), .second, .val (.int x2), .val (.int x3), .val (.int x4), .val (.int x5), .val (.int ((x0 &&& (3 : Int32)) + (1 : Int32))), .val (.ref b44), .val (.ref b46), .val (.long d1), .second, .val (.long d2), .second, .val (.long d3), .second, .val (.long d4), .second, .val (.long ((x1 + d1) + d2)), .second, .val (.int (1 : Int32))] [(.long (((x1 + d1) + d2) + d3))])) _
    refine XS.lstore X57.here hx rfl (hb hby at_135) rfl (l' := #[.val (.int x0), .val (.long x1), .second, .val (.int x2), .val (.int x3), .val (.int x4), .val (.int x5), .val (.int ((x0 &&& (3 : Int32)) + (1 : Int32))), .val (.ref b44), .val (.ref b46), .val (.long d1), .second, .val (.long d2), .second, .val (.long d3), .second, .val (.long d4), .second, .val (.long (((x1 + d1) + d2) + d3)), .second, .val (.int (1 : Int32))]) rfl ?_
    show Steps p.tables e below (T57.setTop (mkF m 137 #[.val (.int x0), .val (.long x1), .second, .val (.int x2), .val (.int x3), .val (.int x4), .val (.int x5), .val (.int ((x0 &&& (3 : Int32)) + (1 : Int32))), .val (.ref b44), .val (.ref b46), .val (.long d1), .second, .val (.long d2), .second, .val (.long d3), .second, .val (.long d4), .second, .val (.long (((x1 + d1) + d2) + d3)), .second, .val (.int (1 : Int32))] [])) _
    refine XS.iload X57.here hx rfl (hb hby at_137) rfl ?_
    show Steps p.tables e below (T57.setTop (mkF m 139 #[.val (.int x0), .val (.long x1), .second, .val (.int x2), .val (.int x3), .val (.int x4), .val (.int x5), .val (.int ((x0 &&& (3 : Int32)) + (1 : Int32))), .val (.ref b44), .val (.ref b46), .val (.long d1), .second, .val (.long d2), .second, .val (.long d3), .second, .val (.long d4), .second, .val (.long (((x1 + d1) + d2) + d3)), .second, .val (.int (1 : Int32))] [(.int (1 : Int32))])) _
    refine XS.aload X57.here hx rfl (hb hby at_139) rfl rfl ?_
    show Steps p.tables e below (T57.setTop (mkF m 141 #[.val (.int x0), .val (.long x1), .second, .val (.int x2), .val (.int x3), .val (.int x4), .val (.int x5), .val (.int ((x0 &&& (3 : Int32)) + (1 : Int32))), .val (.ref b44), .val (.ref b46), .val (.long d1), .second, .val (.long d2), .second, .val (.long d3), .second, .val (.long d4), .second, .val (.long (((x1 + d1) + d2) + d3)), .second, .val (.int (1 : Int32))] [(.ref b44), (.int (1 : Int32))])) _
    refine XS.aload X57.here hx rfl (hb hby at_141) rfl rfl ?_
    show Steps p.tables e below (T57.setTop (mkF m 143 #[.val (.int x0), .val (.long x1), .second, .val (.int x2), .val (.int x3), .val (.int x4), .val (.int x5), .val (.int ((x0 &&& (3 : Int32)) + (1 : Int32))), .val (.ref b44), .val (.ref b46), .val (.long d1), .second, .val (.long d2), .second, .val (.long d3), .second, .val (.long d4), .second, .val (.long (((x1 + d1) + d2) + d3)), .second, .val (.int (1 : Int32))] [(.ref b46), (.ref b44), (.int (1 : Int32))])) _
    refine XS.lload X57.here hx rfl (hb hby at_143) rfl ?_
    show Steps p.tables e below (T57.setTop (mkF m 145 #[.val (.int x0), .val (.long x1), .second, .val (.int x2), .val (.int x3), .val (.int x4), .val (.int x5), .val (.int ((x0 &&& (3 : Int32)) + (1 : Int32))), .val (.ref b44), .val (.ref b46), .val (.long d1), .second, .val (.long d2), .second, .val (.long d3), .second, .val (.long d4), .second, .val (.long (((x1 + d1) + d2) + d3)), .second, .val (.int (1 : Int32))] [(.long (((x1 + d1) + d2) + d3)), (.ref b46), (.ref b44), (.int (1 : Int32))])) _
    refine XS.lload X57.here hx rfl (hb hby at_145) rfl ?_
    show Steps p.tables e below (T57.setTop (mkF m 147 #[.val (.int x0), .val (.long x1), .second, .val (.int x2), .val (.int x3), .val (.int x4), .val (.int x5), .val (.int ((x0 &&& (3 : Int32)) + (1 : Int32))), .val (.ref b44), .val (.ref b46), .val (.long d1), .second, .val (.long d2), .second, .val (.long d3), .second, .val (.long d4), .second, .val (.long (((x1 + d1) + d2) + d3)), .second, .val (.int (1 : Int32))] [(.long d3), (.long (((x1 + d1) + d2) + d3)), (.ref b46), (.ref b44), (.int (1 : Int32))])) _
    refine XS.iload X57.here hx rfl (hb hby at_147) rfl ?_
    show Steps p.tables e below (T57.setTop (mkF m 149 #[.val (.int x0), .val (.long x1), .second, .val (.int x2), .val (.int x3), .val (.int x4), .val (.int x5), .val (.int ((x0 &&& (3 : Int32)) + (1 : Int32))), .val (.ref b44), .val (.ref b46), .val (.long d1), .second, .val (.long d2), .second, .val (.long d3), .second, .val (.long d4), .second, .val (.long (((x1 + d1) + d2) + d3)), .second, .val (.int (1 : Int32))] [(.int ((x0 &&& (3 : Int32)) + (1 : Int32))), (.long d3), (.long (((x1 + d1) + d2) + d3)), (.ref b46), (.ref b44), (.int (1 : Int32))])) _
    refine st58 _ ?_
    show Steps p.tables e below (T58.setTop (mkF m 152 #[.val (.int x0), .val (.long x1), .second, .val (.int x2), .val (.int x3), .val (.int x4), .val (.int x5), .val (.int ((x0 &&& (3 : Int32)) + (1 : Int32))), .val (.ref b44), .val (.ref b46), .val (.long d1), .second, .val (.long d2), .second, .val (.long d3), .second, .val (.long d4), .second, .val (.long (((x1 + d1) + d2) + d3)), .second, .val (.int (1 : Int32))] [(.int (1 : Int32)), (.int (1 : Int32))])) _
    refine XS.iand X58.here hx rfl (hb hby at_152) rfl ?_
    show Steps p.tables e below (T58.setTop (mkF m 153 #[.val (.int x0), .val (.long x1), .second, .val (.int x2), .val (.int x3), .val (.int x4), .val (.int x5), .val (.int ((x0 &&& (3 : Int32)) + (1 : Int32))), .val (.ref b44), .val (.ref b46), .val (.long d1), .second, .val (.long d2), .second, .val (.long d3), .second, .val (.long d4), .second, .val (.long (((x1 + d1) + d2) + d3)), .second, .val (.int (1 : Int32))] [(.int (1 : Int32))])) _
    refine XS.istore X58.here hx rfl (hb hby at_153) rfl (l' := #[.val (.int x0), .val (.long x1), .second, .val (.int x2), .val (.int x3), .val (.int x4), .val (.int x5), .val (.int ((x0 &&& (3 : Int32)) + (1 : Int32))), .val (.ref b44), .val (.ref b46), .val (.long d1), .second, .val (.long d2), .second, .val (.long d3), .second, .val (.long d4), .second, .val (.long (((x1 + d1) + d2) + d3)), .second, .val (.int (1 : Int32))]) rfl ?_
    show Steps p.tables e below (T58.setTop (mkF m 155 #[.val (.int x0), .val (.long x1), .second, .val (.int x2), .val (.int x3), .val (.int x4), .val (.int x5), .val (.int ((x0 &&& (3 : Int32)) + (1 : Int32))), .val (.ref b44), .val (.ref b46), .val (.long d1), .second, .val (.long d2), .second, .val (.long d3), .second, .val (.long d4), .second, .val (.long (((x1 + d1) + d2) + d3)), .second, .val (.int (1 : Int32))] [])) _
    refine XS.lload X58.here hx rfl (hb hby at_155) rfl ?_
    show Steps p.tables e below (T58.setTop (mkF m 157 #[.val (.int x0), .val (.long x1), .second, .val (.int x2), .val (.int x3), .val (.int x4), .val (.int x5), .val (.int ((x0 &&& (3 : Int32)) + (1 : Int32))), .val (.ref b44), .val (.ref b46), .val (.long d1), .second, .val (.long d2), .second, .val (.long d3), .second, .val (.long d4), .second, .val (.long (((x1 + d1) + d2) + d3)), .second, .val (.int (1 : Int32))] [(.long (((x1 + d1) + d2) + d3))])) _
    refine XS.lload X58.here hx rfl (hb hby at_157) rfl ?_
    show Steps p.tables e below (T58.setTop (mkF m 159 #[.val (.int x0), .val (.long x1), .second, .val (.int x2), .val (.int x3), .val (.int x4), .val (.int x5), .val (.int ((x0 &&& (3 : Int32)) + (1 : Int32))), .val (.ref b44), .val (.ref b46), .val (.long d1), .second, .val (.long d2), .second, .val (.long d3), .second, .val (.long d4), .second, .val (.long (((x1 + d1) + d2) + d3)), .second, .val (.int (1 : Int32))] [(.long d4), (.long (((x1 + d1) + d2) + d3))])) _
    refine XS.ladd X58.here hx rfl (hb hby at_159) rfl ?_
    show Steps p.tables e below (T58.setTop (mkF m 160 #[.val (.int x0), .val (.long x1), .second, .val (.int x2), .val (.int x3), .val (.int x4), .val (.int x5), .val (.int ((x0 &&& (3 : Int32)) + (1 : Int32))), .val (.ref b44), .val (.ref b46), .val (.long d1), .second, .val (.long d2), .second, .val (.long d3), .second, .val (.long d4), .second, .val (.long (((x1 + d1) + d2) + d3)), .second, .val (.int (1 : Int32))] [(.long ((((x1 + d1) + d2) + d3) + d4))])) _
    refine XS.lstore X58.here hx rfl (hb hby at_160) rfl (l' := #[.val (.int x0), .val (.long x1), .second, .val (.int x2), .val (.int x3), .val (.int x4), .val (.int x5), .val (.int ((x0 &&& (3 : Int32)) + (1 : Int32))), .val (.ref b44), .val (.ref b46), .val (.long d1), .second, .val (.long d2), .second, .val (.long d3), .second, .val (.long d4), .second, .val (.long ((((x1 + d1) + d2) + d3) + d4)), .second, .val (.int (1 : Int32))]) rfl ?_
    show Steps p.tables e below (T58.setTop (mkF m 162 #[.val (.int x0), .val (.long x1), .second, .val (.int x2), .val (.int x3), .val (.int x4), .val (.int x5), .val (.int ((x0 &&& (3 : Int32)) + (1 : Int32))), .val (.ref b44), .val (.ref b46), .val (.long d1), .second, .val (.long d2), .second, .val (.long d3), .second, .val (.long d4), .second, .val (.long ((((x1 + d1) + d2) + d3) + d4)), .second, .val (.int (1 : Int32))] [])) _
    refine XS.iload X58.here hx rfl (hb hby at_162) rfl ?_
    show Steps p.tables e below (T58.setTop (mkF m 164 #[.val (.int x0), .val (.long x1), .second, .val (.int x2), .val (.int x3), .val (.int x4), .val (.int x5), .val (.int ((x0 &&& (3 : Int32)) + (1 : Int32))), .val (.ref b44), .val (.ref b46), .val (.long d1), .second, .val (.long d2), .second, .val (.long d3), .second, .val (.long d4), .second, .val (.long ((((x1 + d1) + d2) + d3) + d4)), .second, .val (.int (1 : Int32))] [(.int (1 : Int32))])) _
    refine XS.aload X58.here hx rfl (hb hby at_164) rfl rfl ?_
    show Steps p.tables e below (T58.setTop (mkF m 166 #[.val (.int x0), .val (.long x1), .second, .val (.int x2), .val (.int x3), .val (.int x4), .val (.int x5), .val (.int ((x0 &&& (3 : Int32)) + (1 : Int32))), .val (.ref b44), .val (.ref b46), .val (.long d1), .second, .val (.long d2), .second, .val (.long d3), .second, .val (.long d4), .second, .val (.long ((((x1 + d1) + d2) + d3) + d4)), .second, .val (.int (1 : Int32))] [(.ref b44), (.int (1 : Int32))])) _
    refine XS.aload X58.here hx rfl (hb hby at_166) rfl rfl ?_
    show Steps p.tables e below (T58.setTop (mkF m 168 #[.val (.int x0), .val (.long x1), .second, .val (.int x2), .val (.int x3), .val (.int x4), .val (.int x5), .val (.int ((x0 &&& (3 : Int32)) + (1 : Int32))), .val (.ref b44), .val (.ref b46), .val (.long d1), .second, .val (.long d2), .second, .val (.long d3), .second, .val (.long d4), .second, .val (.long ((((x1 + d1) + d2) + d3) + d4)), .second, .val (.int (1 : Int32))] [(.ref b46), (.ref b44), (.int (1 : Int32))])) _
    refine XS.lload X58.here hx rfl (hb hby at_168) rfl ?_
    show Steps p.tables e below (T58.setTop (mkF m 170 #[.val (.int x0), .val (.long x1), .second, .val (.int x2), .val (.int x3), .val (.int x4), .val (.int x5), .val (.int ((x0 &&& (3 : Int32)) + (1 : Int32))), .val (.ref b44), .val (.ref b46), .val (.long d1), .second, .val (.long d2), .second, .val (.long d3), .second, .val (.long d4), .second, .val (.long ((((x1 + d1) + d2) + d3) + d4)), .second, .val (.int (1 : Int32))] [(.long ((((x1 + d1) + d2) + d3) + d4)), (.ref b46), (.ref b44), (.int (1 : Int32))])) _
    refine XS.lload X58.here hx rfl (hb hby at_170) rfl ?_
    show Steps p.tables e below (T58.setTop (mkF m 172 #[.val (.int x0), .val (.long x1), .second, .val (.int x2), .val (.int x3), .val (.int x4), .val (.int x5), .val (.int ((x0 &&& (3 : Int32)) + (1 : Int32))), .val (.ref b44), .val (.ref b46), .val (.long d1), .second, .val (.long d2), .second, .val (.long d3), .second, .val (.long d4), .second, .val (.long ((((x1 + d1) + d2) + d3) + d4)), .second, .val (.int (1 : Int32))] [(.long d4), (.long ((((x1 + d1) + d2) + d3) + d4)), (.ref b46), (.ref b44), (.int (1 : Int32))])) _
    refine XS.iload X58.here hx rfl (hb hby at_172) rfl ?_
    show Steps p.tables e below (T58.setTop (mkF m 174 #[.val (.int x0), .val (.long x1), .second, .val (.int x2), .val (.int x3), .val (.int x4), .val (.int x5), .val (.int ((x0 &&& (3 : Int32)) + (1 : Int32))), .val (.ref b44), .val (.ref b46), .val (.long d1), .second, .val (.long d2), .second, .val (.long d3), .second, .val (.long d4), .second, .val (.long ((((x1 + d1) + d2) + d3) + d4)), .second, .val (.int (1 : Int32))] [(.int ((x0 &&& (3 : Int32)) + (1 : Int32))), (.long d4), (.long ((((x1 + d1) + d2) + d3) + d4)), (.ref b46), (.ref b44), (.int (1 : Int32))])) _
    refine st59 _ ?_
    show Steps p.tables e below (T59.setTop (mkF m 177 #[.val (.int x0), .val (.long x1), .second, .val (.int x2), .val (.int x3), .val (.int x4), .val (.int x5), .val (.int ((x0 &&& (3 : Int32)) + (1 : Int32))), .val (.ref b44), .val (.ref b46), .val (.long d1), .second, .val (.long d2), .second, .val (.long d3), .second, .val (.long d4), .second, .val (.long ((((x1 + d1) + d2) + d3) + d4)), .second, .val (.int (1 : Int32))] [(.int (1 : Int32)), (.int (1 : Int32))])) _
    refine XS.iand X59.here hx rfl (hb hby at_177) rfl ?_
    show Steps p.tables e below (T59.setTop (mkF m 178 #[.val (.int x0), .val (.long x1), .second, .val (.int x2), .val (.int x3), .val (.int x4), .val (.int x5), .val (.int ((x0 &&& (3 : Int32)) + (1 : Int32))), .val (.ref b44), .val (.ref b46), .val (.long d1), .second, .val (.long d2), .second, .val (.long d3), .second, .val (.long d4), .second, .val (.long ((((x1 + d1) + d2) + d3) + d4)), .second, .val (.int (1 : Int32))] [(.int (1 : Int32))])) _
    refine XS.istore X59.here hx rfl (hb hby at_178) rfl (l' := #[.val (.int x0), .val (.long x1), .second, .val (.int x2), .val (.int x3), .val (.int x4), .val (.int x5), .val (.int ((x0 &&& (3 : Int32)) + (1 : Int32))), .val (.ref b44), .val (.ref b46), .val (.long d1), .second, .val (.long d2), .second, .val (.long d3), .second, .val (.long d4), .second, .val (.long ((((x1 + d1) + d2) + d3) + d4)), .second, .val (.int (1 : Int32))]) rfl ?_
    show Steps p.tables e below (T59.setTop (mkF m 180 #[.val (.int x0), .val (.long x1), .second, .val (.int x2), .val (.int x3), .val (.int x4), .val (.int x5), .val (.int ((x0 &&& (3 : Int32)) + (1 : Int32))), .val (.ref b44), .val (.ref b46), .val (.long d1), .second, .val (.long d2), .second, .val (.long d3), .second, .val (.long d4), .second, .val (.long ((((x1 + d1) + d2) + d3) + d4)), .second, .val (.int (1 : Int32))] [])) _
    refine XS.iload X59.here hx rfl (hb hby at_180) rfl ?_
    show Steps p.tables e below (T59.setTop (mkF m 182 #[.val (.int x0), .val (.long x1), .second, .val (.int x2), .val (.int x3), .val (.int x4), .val (.int x5), .val (.int ((x0 &&& (3 : Int32)) + (1 : Int32))), .val (.ref b44), .val (.ref b46), .val (.long d1), .second, .val (.long d2), .second, .val (.long d3), .second, .val (.long d4), .second, .val (.long ((((x1 + d1) + d2) + d3) + d4)), .second, .val (.int (1 : Int32))] [(.int (1 : Int32))])) _
    exact retN X59 hx (t := .boolean) Bd.returns (by simp) (hb hby at_182) hr
  · show Q_0 Z x0 x1 x2 x3 x4 x5 d1 d2 d3 d4 h0 n0 _ T59.heap _
    exact ⟨rfl, N59⟩
set_option maxRecDepth 65536 in
set_option maxHeartbeats 40000000 in
theorem comes_1 {Post : Tables → Env → Array Value → State → Outcome → State → Prop} (hpost : ∀ tb e args s v u, (limb_1_1.after args s (.returned v) u = true ∧ limb_1_2.after args s (.returned v) u = true ∧ True) → FrameEnd s (.returned v) u (Jvm.fieldLocs frame_1_writes args s ++ Jvm.arrayLocs frame_1_arrays args s ++ Jvm.staticLocs frame_1_statics s) 16 128 → Post tb e args s (.returned v) u) :
    ArmFor flags0 classFile x code maxLocals ret World_1 tables_1 room_1 Calls_1 rest_1 Pre_1 Post := by
  intro l hfl _ _ p e ha hc hk s m args below hf hA hF happ hP
  obtain ⟨hcalls, hrest, hpre⟩ := hP
  obtain ⟨-, -, -, hnamed, -, -, -, hat⟩ := (Spec.applies_iff hf).mp happ
  obtain ⟨hg, hn⟩ := and_e (Cond.before_iff.mp (show (Jvm.Cond.and given_1 narrow_1).before args s = true from hpre))
  obtain ⟨g60, g61⟩ := and_e hg
  obtain ⟨g62, g63⟩ := and_e g61
  obtain ⟨g64, g65⟩ := and_e g63
  obtain ⟨g66, g67⟩ := and_e g65
  obtain ⟨g68, g69⟩ := and_e g67
  obtain ⟨g70, g71⟩ := and_e g69
  obtain ⟨w0, w1, w2, w3, w4, w5, rfl⟩ : ∃ w0 w1 w2 w3 w4 w5 : Value, args = #[w0, w1, w2, w3, w4, w5] := by
    have hs : args.size = 6 := by simpa [Cond.value, given_1] using g60
    obtain ⟨L⟩ := args
    match L, hs with
    | [w0, w1, w2, w3, w4, w5], _ => exact ⟨w0, w1, w2, w3, w4, w5, rfl⟩
  have hw := fun d (hd : d ∈ tables_1) => atoms_spec (ws := Jvm.Cond.code x code maxLocals ret :: tables_1) hat d (List.mem_cons_of_mem _ hd)
  have hfit : Fit s := fun {y c} hc i hi => by
    obtain ⟨ha, rfl⟩ := Array.getElem?_eq_some_iff.mp hc
    have q := List.all_eq_true.mp ((Array.all_eq_true_iff_forall_mem.mp hF) _ (Array.getElem_mem ha)) i (List.mem_range.mpr hi)
    simpa [Array.getElem?_eq_getElem hi] using q
  obtain ⟨x0, ei0⟩ := is_v g62
  obtain rfl : w0 = (.int x0) := Option.some.inj ei0
  obtain ⟨x1, ei1⟩ := isL_v g64
  obtain rfl : w1 = (.long x1) := Option.some.inj ei1
  obtain ⟨x2, ei2⟩ := is_v g66
  obtain rfl : w2 = (.int x2) := Option.some.inj ei2
  obtain ⟨x3, ei3⟩ := is_v g68
  obtain rfl : w3 = (.int x3) := Option.some.inj ei3
  obtain ⟨x4, ei4⟩ := is_v g70
  obtain rfl : w4 = (.int x4) := Option.some.inj ei4
  obtain ⟨x5, ei5⟩ := is_v g71
  obtain rfl : w5 = (.int x5) := Option.some.inj ei5
  obtain ⟨g72, g73⟩ := and_e hn
  have S_LENGTH_NS : Sta s s.heap "com/example/gated_chorus/gatedchorus/limit/Window" "LENGTH_NS" "J" (.long (1000000000 : Int64)) := Sta.start (own_staL g72) (Or.inr ⟨(hw _ (List.mem_of_getElem? (i := 2) rfl)), (hw _ (List.mem_of_getElem? (i := 31) rfl))⟩)
  have S_NS_PER_MS : Sta s s.heap "com/example/gated_chorus/gatedchorus/limit/Window" "NS_PER_MS" "J" (.long (1000000 : Int64)) := Sta.start (own_staL g73) (Or.inr ⟨(hw _ (List.mem_of_getElem? (i := 2) rfl)), (hw _ (List.mem_of_getElem? (i := 33) rfl))⟩)
  obtain ⟨n, o, h1, h2, h3, _, L, rfl, ⟨rfl, N⟩, hq⟩ := rm_0 l s _ hw tables_1 x0 x1 x2 x3 x4 x5 _ _ _ _ s.heap s.heap.size (Nat.le_refl _) S_LENGTH_NS S_NS_PER_MS rfl rfl rfl rfl (own_gapR x2) (own_gapR x3) (own_gapR x4) (own_gapR x5) p e ha hc hk s m _ below hf ((Spec.applies_iff_loose hf).mp happ).1 ⟨rfl, State.Warmed39.refl s, rfl⟩ trivial
  refine ⟨n, _, h1, h2, h3, hpost _ _ _ _ _ _ ⟨Cond.after_iff.mpr rfl, Cond.after_iff.mpr (eq_i res_at (Term.int_eval (1)) rfl), trivial⟩ ⟨hq.1, hq.2.1, (hq.2.2.sift fun y hy => Or.inr (N y hy)).mono (by decide) (by decide)⟩⟩
theorem main_1_1 : Claimed_1_1 := comes_1 fun _ _ _ _ _ _ h hF => ⟨h.1, hF⟩
theorem main_1_2 : Claimed_1_2 := comes_1 fun _ _ _ _ _ _ h hF => ⟨h.2.1, hF⟩
end Jvm.Pilot.@@N@@
namespace Jvm.Pilot.@@N@@
open Jvm Jvm.ClassFile Sem Op Lib Jvm.Free Jvm.Stand Jvm.Pilot.@@N@@.Jvm.D
/-! MADE BY PROGRAM (witnessworld.py) out of the Statement's table words and the real class files: 11 classes; the members and pool entries that the words name. The judged class is class 1, her method 3. -/
namespace start1
open Jvm.ClassFile
def u (s : String) : CpInfo := .utf8 (stringToUtf16 s)
/-- a pool by its gaps: so many unusable entries, then the entry; so many at the end -/
def gap : Nat → List CpInfo → List CpInfo
  | 0, r => r
  | n + 1, r => .unusable :: gap n r
def poolList (es : List (Nat × CpInfo)) (last : Nat) : List CpInfo := es.foldr (fun e r => gap e.1 (e.2 :: r)) (gap last [])
def pool (es : List (Nat × CpInfo)) (last : Nat) : Array CpInfo := ⟨poolList es last⟩
def fileOf (pool : Array CpInfo) (this : Nat) (attrs : Array Attribute := #[]) (ms : Array MethodInfo := #[]) (fl : Nat := 33) (sup : Nat := 0) (ifs : Array Nat := #[]) (fds : Array FieldInfo := #[]) : ClassFile where
  minorVersion := 0
  majorVersion := 65
  constantPool := pool
  accessFlags := fl
  thisClass := this
  superClass := sup
  interfaces := ifs
  fields := fds
  methods := ms
  attributes := attrs
def plain (name : String) (sup : Option ClassId) : Class where
  name := name
  kind := .ordinary
  loader := none
  accessFlags := 33
  super := sup
  interfaces := #[]
  cf := none
  fields := #[]
  methods := #[]
  instanceTypes := #[]
  staticTypes := #[]
  resolved := #[]
  callSites := []
  init := .initialized
  statics := none
  mirror := none

def pool0 : Array CpInfo := pool [(5, u "<init>"), (0, u "()V"), (1, .class_ 10), (1, u "java/lang/Object")] 113

def k0c0 : Code := { maxStack := 0, maxLocals := 1, code := object_method_1_code, exceptionTable := #[], attributes := #[] }
def k0m0 : Method := { name := "<init>", desc := "()V", sig := { parameters := [], returnType := none }, accessFlags := 1, code := some k0c0 }
/-- java/lang/Object -/
def k0 : Class := { plain "java/lang/Object" none with
  accessFlags := 33
  interfaces := #[]
  cf := some (fileOf pool0 8 #[] #[{ accessFlags := 1, nameIndex := 5, descriptorIndex := 6, attributes := #[] }] 33 0 #[] #[])
  fields := #[]
  methods := #[k0m0]
  instanceTypes := #[]
  staticTypes := #[]
  resolved := Array.replicate 124 none
  statics := none }

def pool1 : Array CpInfo := pool [(2, .class_ 4), (1, u "java/lang/Object"), (0, u "<init>"), (0, u "()V"), (0, .integer 2147483647), (0, .integer 1500000001), (0, .methodref 10 11), (0, .class_ 12), (0, .nameAndType 13 14), (0, u "com/example/gated_chorus/gatedchorus/limit/Window"), (0, u "admit"), (0, u "(J)I"), (0, .long 1000000000), (1, .long 1000000), (1, .methodref 10 20), (0, .nameAndType 5 21), (0, u "(I)V"), (0, .methodref 23 24), (0, .class_ 25), (0, .nameAndType 26 27), (0, u "com/example/gated_chorus/gatedchorus/limit/WindowAdmitPinLaw"), (0, u "gap"), (0, u "(I)J"), (0, .methodref 23 29), (0, .nameAndType 30 31), (0, u "step"), (0, u "(Lcom/example/gated_chorus/gatedchorus/limit/Window;[JJJI)Z"), (3, u "law"), (0, u "(IJIIII)Z")] 4

def k1m0 : Method := { name := "<init>", desc := "()V", sig := { parameters := [], returnType := none }, accessFlags := 1, code := none }
def k1c1 : Code := { maxStack := 2, maxLocals := 1, code := method_2_code, exceptionTable := #[], attributes := #[] }
def k1m1 : Method := { name := "gap", desc := "(I)J", sig := { parameters := [.int], returnType := some .long }, accessFlags := 10, code := some k1c1 }
def k1c2 : Code := { maxStack := 6, maxLocals := 10, code := method_3_code, exceptionTable := #[], attributes := #[] }
def k1m2 : Method := { name := "step", desc := "(Lcom/example/gated_chorus/gatedchorus/limit/Window;[JJJI)Z", sig := { parameters := [(.object "com/example/gated_chorus/gatedchorus/limit/Window"), (.array .long), .long, .long, .int], returnType := some .boolean }, accessFlags := 10, code := some k1c2 }
def k1c3 : Code := { maxStack := 8, maxLocals := 21, code := code, exceptionTable := #[], attributes := #[] }
def k1m3 : Method := { name := "law", desc := "(IJIIII)Z", sig := { parameters := [.int, .long, .int, .int, .int, .int], returnType := some .boolean }, accessFlags := 9, code := some k1c3 }
/-- com/example/gated_chorus/gatedchorus/limit/WindowAdmitPinLaw -/
def k1 : Class := { plain "com/example/gated_chorus/gatedchorus/limit/WindowAdmitPinLaw" (some 0) with
  accessFlags := 49
  interfaces := #[]
  cf := some (fileOf pool1 23 #[] #[{ accessFlags := 1, nameIndex := 5, descriptorIndex := 6, attributes := #[] }, { accessFlags := 10, nameIndex := 26, descriptorIndex := 27, attributes := #[] }, { accessFlags := 10, nameIndex := 30, descriptorIndex := 31, attributes := #[] }, { accessFlags := 9, nameIndex := 35, descriptorIndex := 36, attributes := #[] }] 49 2 #[] #[])
  fields := #[]
  methods := #[k1m0, k1m1, k1m2, k1m3]
  instanceTypes := #[]
  staticTypes := #[]
  resolved := Array.replicate 41 none
  statics := none }

def pool2 : Array CpInfo := pool [(1, .methodref 2 3), (0, .class_ 4), (0, .nameAndType 5 6), (0, u "java/lang/Object"), (0, u "<init>"), (0, u "()V"), (0, .fieldref 8 9), (0, .class_ 10), (0, .nameAndType 11 12), (0, u "com/example/gated_chorus/gatedchorus/limit/Window"), (0, u "limit"), (0, u "I"), (0, .fieldref 8 14), (0, .nameAndType 15 12), (0, u "accepted"), (0, .fieldref 8 17), (0, .nameAndType 18 19), (0, u "opened"), (0, u "J"), (0, .fieldref 8 21), (0, .nameAndType 22 19), (0, u "LENGTH_NS"), (0, .fieldref 8 24), (0, .nameAndType 25 19), (0, u "NS_PER_MS"), (13, u "(I)V"), (2, u "admit"), (0, u "(J)I")] 4

def k2c0 : Code := { maxStack := 2, maxLocals := 2, code := prog_18_method_1_code, exceptionTable := #[], attributes := #[] }
def k2m0 : Method := { name := "<init>", desc := "(I)V", sig := { parameters := [.int], returnType := none }, accessFlags := 1, code := some k2c0 }
def k2c1 : Code := { maxStack := 4, maxLocals := 5, code := prog_18_method_2_code, exceptionTable := #[], attributes := #[] }
def k2m1 : Method := { name := "admit", desc := "(J)I", sig := { parameters := [.long], returnType := some .int }, accessFlags := 1, code := some k2c1 }
/-- com/example/gated_chorus/gatedchorus/limit/Window -/
def k2 : Class := { plain "com/example/gated_chorus/gatedchorus/limit/Window" (some 0) with
  accessFlags := 49
  interfaces := #[]
  cf := some (fileOf pool2 8 #[] #[{ accessFlags := 1, nameIndex := 5, descriptorIndex := 39, attributes := #[] }, { accessFlags := 1, nameIndex := 42, descriptorIndex := 43, attributes := #[] }] 49 2 #[] #[{ accessFlags := 26, nameIndex := 22, descriptorIndex := 19, attributes := #[] }, { accessFlags := 26, nameIndex := 25, descriptorIndex := 19, attributes := #[] }, { accessFlags := 18, nameIndex := 11, descriptorIndex := 12, attributes := #[] }, { accessFlags := 2, nameIndex := 18, descriptorIndex := 19, attributes := #[] }, { accessFlags := 2, nameIndex := 15, descriptorIndex := 12, attributes := #[] }])
  fields := #[{ name := "LENGTH_NS", type := .long, accessFlags := 26, slot := 0, constantValue := 0 }, { name := "NS_PER_MS", type := .long, accessFlags := 26, slot := 1, constantValue := 0 }, { name := "limit", type := .int, accessFlags := 18, slot := 0, constantValue := 0 }, { name := "opened", type := .long, accessFlags := 2, slot := 1, constantValue := 0 }, { name := "accepted", type := .int, accessFlags := 2, slot := 2, constantValue := 0 }]
  methods := #[k2m0, k2m1]
  instanceTypes := #[.int, .long, .int]
  staticTypes := #[.long, .long]
  resolved := Array.replicate 48 none
  statics := some 0 }

def pool3 : Array CpInfo := pool [(1, u "java/lang/Cloneable"), (0, .class_ 1), (0, u "java/lang/Object"), (0, .class_ 3)] 3

/-- java/lang/Cloneable -/
def k3 : Class := { plain "java/lang/Cloneable" (some 0) with
  accessFlags := 1537
  interfaces := #[]
  cf := some (fileOf pool3 2 #[] #[] 1537 4 #[] #[])
  fields := #[]
  methods := #[]
  instanceTypes := #[]
  staticTypes := #[]
  resolved := Array.replicate 8 none
  statics := none }

def pool4 : Array CpInfo := pool [(1, u "java/io/Serializable"), (0, .class_ 1), (0, u "java/lang/Object"), (0, .class_ 3)] 3

/-- java/io/Serializable -/
def k4 : Class := { plain "java/io/Serializable" (some 0) with
  accessFlags := 1537
  interfaces := #[]
  cf := some (fileOf pool4 2 #[] #[] 1537 4 #[] #[])
  fields := #[]
  methods := #[]
  instanceTypes := #[]
  staticTypes := #[]
  resolved := Array.replicate 8 none
  statics := none }

/-- the primitive byte -/
def k5 : Class := { plain "byte" none with kind := .primitive 'B', accessFlags := 0x411 }
/-- [B -/
def k6 : Class := { plain "[B" (some 0) with kind := .array 5 .byte, interfaces := #[3, 4], accessFlags := 1041 }

/-- the primitive int -/
def k7 : Class := { plain "int" none with kind := .primitive 'I', accessFlags := 0x411 }
/-- [I -/
def k8 : Class := { plain "[I" (some 0) with kind := .array 7 .int, interfaces := #[3, 4], accessFlags := 1041 }

/-- the primitive long -/
def k9 : Class := { plain "long" none with kind := .primitive 'J', accessFlags := 0x411 }
/-- [J -/
def k10 : Class := { plain "[J" (some 0) with kind := .array 9 .long, interfaces := #[3, 4], accessFlags := 1041 }

def heap : Heap := #[{ cls := 2, slots := #[.long 1000000000, .long 1000000], vm := .statics 2 }]
def classes : Array Class := #[k0, k1, k2, k3, k4, k5, k6, k7, k8, k9, k10]
def interned : List (Array UInt16 × Addr) := []
def slotsUsed : Nat := 2
def theMethod : MethodId := ⟨1, 3⟩
def args0 : Array Value := #[.int 5, .long 7, .int 5, .int 5, .int 5, .int 5]
def aboutOver (below : List Frame) : State where
  vm := { classes := classes, interned := interned.toArray }
  heap := heap
  slotsUsed := slotsUsed
  threads := #[{ frames := .invoking theMethod args0 :: below }]
def below0 : List Frame := [.native { method := ⟨0, 0⟩, args := #[] }]
def about1 : State := aboutOver below0
def p0 : Program := .bare "" "" ""
def e0 : Env := launch0.env 0 0 0
theorem w_frames : about1.frames = Frame.invoking theMethod args0 :: below0 := rfl
set_option maxRecDepth 65536 in
theorem w_args : argsFit about1.vm theMethod args0 = true := by decide +kernel
set_option maxRecDepth 65536 in
theorem w_heap : heapFits about1 = true := by decide +kernel
set_option maxRecDepth 65536 in
theorem w_runnable : about1.curStatus? = some .runnable := by decide +kernel
set_option maxRecDepth 65536 in
theorem w_alone : about1.alone = true := by decide +kernel
set_option maxRecDepth 65536 in
theorem w_named : about1.methodNamed? x = some theMethod := by decide +kernel
set_option maxRecDepth 65536 in
theorem w_hears : about1.hears theMethod below0 = true := by decide +kernel
set_option maxRecDepth 65536 in
theorem w_ripe : about1.ripe theMethod args0 below0 = true := by decide +kernel
theorem w_running : about1.status = .running := rfl
set_option maxRecDepth 65536 in
theorem w_room : about1.hasRoom e0.platform room_1 = true :=
  launch0.hasRoom_least _ room_1 (by decide +kernel) (by decide +kernel) (by decide +kernel) (by decide +kernel) (by decide +kernel) (by decide +kernel)
theorem allAtoms_all (ts : List Jvm.Cond) (a : Array Jvm.Value) (st : Jvm.State) : (allAtoms ts).before a st = ts.all (fun c => c.before a st) := by
  induction ts with
  | nil => rfl
  | cons c t ih =>
    show (Jvm.Cond.and c (allAtoms t)).before a st = _
    rw [Jvm.Cond.before_and, ih, List.all_cons]
def words1 : List Jvm.Cond := Jvm.Cond.code x code maxLocals ret :: tables_1
/-- a 'code' word, met by the world's own term for the bytes: nothing is compared byte by byte -/
theorem code_word {y : MethodName} {bytes : ByteArray} {mx : Nat} {rt : Option FieldType} {a : Array Value} {s : State} {m : MethodId} {meth : Method} {c : Code} (h1 : s.methodNamed? y = some m) (h2 : s.vm.method? m = some meth) (h3 : meth.code = some c) (h4 : c.code = bytes)
    (h5 : (c.maxLocals == mx && c.exceptionTable.isEmpty && decide (c.maxStack ≤ mostOperands) && decide (meth.sig.returnType = rt) && !meth.locks && decide (parseMethodDescriptor y.desc = some meth.sig)) = true) : (Jvm.Cond.code y bytes mx rt).before a s = true := by
  simp only [Bool.and_eq_true, beq_iff_eq, Bool.not_eq_true', decide_eq_true_eq] at h5
  obtain ⟨⟨⟨⟨⟨g1, g2⟩, g3⟩, g4⟩, g5⟩, g6⟩ := h5
  simp [Cond.before, Cond.holds, Cond.value, h1, h2, h3, h4, g1, g2, g3, g4, g5, g6]
def isCode : Jvm.Cond → Bool
  | .code _ _ _ _ => true
  | _ => false
theorem all_split {L : List Jvm.Cond} {P : Jvm.Cond → Bool} (h1 : L.all (fun c => isCode c || P c) = true) (h2 : ∀ c ∈ L.filter isCode, P c = true) : L.all P = true := by
  refine List.all_eq_true.mpr fun c hc => ?_
  have h := List.all_eq_true.mp h1 c hc
  rcases Bool.eq_false_or_eq_true (isCode c) with hi | hi
  · exact h2 c (List.mem_filter.mpr ⟨hc, hi⟩)
  · simpa [hi] using h
set_option maxRecDepth 65536 in
theorem w_c0 : (Jvm.Cond.code x code maxLocals ret).before args0 about1 = true := code_word (m := ⟨1, 3⟩) (meth := k1m3) (c := k1c3) (by decide +kernel) rfl rfl rfl (by decide +kernel)
set_option maxRecDepth 65536 in
theorem w_c1 : (Jvm.Cond.code ({ cls := "com/example/gated_chorus/gatedchorus/limit/Window", name := "<init>", desc := "(I)V" } : Jvm.MethodName) prog_18_method_1_code (2 : Nat) (Option.none : Option Jvm.ClassFile.FieldType)).before args0 about1 = true := code_word (m := ⟨2, 0⟩) (meth := k2m0) (c := k2c0) (by decide +kernel) rfl rfl rfl (by decide +kernel)
set_option maxRecDepth 65536 in
theorem w_c2 : (Jvm.Cond.code ({ cls := "java/lang/Object", name := "<init>", desc := "()V" } : Jvm.MethodName) object_method_1_code (1 : Nat) (Option.none : Option Jvm.ClassFile.FieldType)).before args0 about1 = true := code_word (m := ⟨0, 0⟩) (meth := k0m0) (c := k0c0) (by decide +kernel) rfl rfl rfl (by decide +kernel)
set_option maxRecDepth 65536 in
theorem w_c3 : (Jvm.Cond.code ({ cls := "com/example/gated_chorus/gatedchorus/limit/WindowAdmitPinLaw", name := "gap", desc := "(I)J" } : Jvm.MethodName) method_2_code (1 : Nat) (Option.some Jvm.ClassFile.FieldType.long)).before args0 about1 = true := code_word (m := ⟨1, 1⟩) (meth := k1m1) (c := k1c1) (by decide +kernel) rfl rfl rfl (by decide +kernel)
set_option maxRecDepth 65536 in
theorem w_c4 : (Jvm.Cond.code ({ cls := "com/example/gated_chorus/gatedchorus/limit/Window", name := "admit", desc := "(J)I" } : Jvm.MethodName) prog_18_method_2_code (5 : Nat) (Option.some Jvm.ClassFile.FieldType.int)).before args0 about1 = true := code_word (m := ⟨2, 1⟩) (meth := k2m1) (c := k2c1) (by decide +kernel) rfl rfl rfl (by decide +kernel)
set_option maxRecDepth 65536 in
theorem w_c5 : (Jvm.Cond.code ({ cls := "com/example/gated_chorus/gatedchorus/limit/WindowAdmitPinLaw", name := "step", desc := "(Lcom/example/gated_chorus/gatedchorus/limit/Window;[JJJI)Z" } : Jvm.MethodName) method_3_code (10 : Nat) (Option.some Jvm.ClassFile.FieldType.boolean)).before args0 about1 = true := code_word (m := ⟨1, 2⟩) (meth := k1m2) (c := k1c2) (by decide +kernel) rfl rfl rfl (by decide +kernel)
def codes1 : List Jvm.Cond := [Jvm.Cond.code x code maxLocals ret, Jvm.Cond.code ({ cls := "com/example/gated_chorus/gatedchorus/limit/Window", name := "<init>", desc := "(I)V" } : Jvm.MethodName) prog_18_method_1_code (2 : Nat) (Option.none : Option Jvm.ClassFile.FieldType), Jvm.Cond.code ({ cls := "java/lang/Object", name := "<init>", desc := "()V" } : Jvm.MethodName) object_method_1_code (1 : Nat) (Option.none : Option Jvm.ClassFile.FieldType), Jvm.Cond.code ({ cls := "com/example/gated_chorus/gatedchorus/limit/WindowAdmitPinLaw", name := "gap", desc := "(I)J" } : Jvm.MethodName) method_2_code (1 : Nat) (Option.some Jvm.ClassFile.FieldType.long), Jvm.Cond.code ({ cls := "com/example/gated_chorus/gatedchorus/limit/Window", name := "admit", desc := "(J)I" } : Jvm.MethodName) prog_18_method_2_code (5 : Nat) (Option.some Jvm.ClassFile.FieldType.int), Jvm.Cond.code ({ cls := "com/example/gated_chorus/gatedchorus/limit/WindowAdmitPinLaw", name := "step", desc := "(Lcom/example/gated_chorus/gatedchorus/limit/Window;[JJJI)Z" } : Jvm.MethodName) method_3_code (10 : Nat) (Option.some Jvm.ClassFile.FieldType.boolean)]
set_option maxRecDepth 65536 in
theorem codes_eq : words1.filter isCode = codes1 := rfl
theorem w_codes : ∀ c ∈ words1.filter isCode, c.before args0 about1 = true := by
  rw [codes_eq]
  intro c hc
  simp only [codes1, List.mem_cons, List.not_mem_nil, or_false] at hc
  rcases hc with rfl | rfl | rfl | rfl | rfl | rfl
  · exact w_c0
  · exact w_c1
  · exact w_c2
  · exact w_c3
  · exact w_c4
  · exact w_c5
set_option maxRecDepth 65536 in
theorem w_t1 : (words1.take 24).all (fun c => isCode c || c.before args0 about1) = true := by decide +kernel
set_option maxRecDepth 65536 in
theorem w_t2 : (words1.drop 24).all (fun c => isCode c || c.before args0 about1) = true := by decide +kernel
theorem w_tables : (allAtoms (Jvm.Cond.code x code maxLocals ret :: tables_1)).before args0 about1 = true := by
  rw [allAtoms_all]
  show words1.all (fun c => c.before args0 about1) = true
  refine all_split ?_ w_codes
  rw [← List.take_append_drop 24 words1, List.all_append, w_t1, w_t2]
  rfl
set_option maxRecDepth 65536 in
theorem w_case : (Jvm.Cond.and given_1 narrow_1).before args0 about1 = true := by decide +kernel
theorem w_applies : (headSpec (Jvm.Cond.code x code maxLocals ret :: tables_1) room_1).applies x e0.platform about1 = true :=
  (Spec.applies_iff w_frames).mpr ⟨w_running, w_runnable, w_alone, w_named, w_hears, w_ripe, w_room, w_tables⟩
theorem atStart : AtStart classFile x code maxLocals ret World_1 tables_1 room_1 Calls_1 rest_1 Pre_1 launch0 p0 e0 about1 theMethod args0 below0 :=
  ⟨lists_1, trivial, launch0.admits_env _ _ _, launch0.least_env, fairChoices_fair.cas, fairChoices_fair.clock, w_frames, w_args, w_heap, w_applies, trivial, trivial, w_case⟩
end start1
theorem witness_1 : WitnessClaimed_1 := ⟨start1.p0, start1.e0, start1.about1, start1.theMethod, start1.args0, start1.below0, start1.atStart⟩
end Jvm.Pilot.@@N@@
