import JvmDerived
import JvmDerived.Pilot.@@N@@Statement
import JvmDerived.Pilot.@@N@@Code
set_option linter.unusedVariables false
set_option linter.unusedSimpArgs false
namespace Jvm.RoadKit
open Sem ClassFile Op Lib Jvm.Stand Jvm.Free Jvm.LawKit
section New
variable {p : Program} {l : Launch} {e : Env} {R : Room} {s : State} {m : MethodId} {args : Array Value} {below : List Frame} {meth : Method} {c : Code} {T : State} {locs : List Loc} {cells slots : Nat}
theorem retI (X : Stand p l e R s m args below meth c T locs cells slots) (hx : p.tables.exec = Jvm.exec) {pc : Nat} {Ls : Array Slot} {z : Int32} {rest : List Value} (hret : meth.sig.returnType = some .int) (hd : decode c.code pc = .ok (.ireturn, 1)) {fs : List Frame}
    (hl : ∀ (f : JFrame) (acts : List Action), f.method = m → f.locked = none → f.entered = [] → (doReturn e (T.setTop f) acts (some (.int z))).1 = T.setFrames fs) : Steps p.tables e below (T.setTop (mkF m pc Ls (.int z :: rest))) (T.setFrames fs) := by
  have hm' : T.vm.method? m = some meth := X.method'
  have hn : narrow .int (.int z) = .int z := rfl
  show Steps p.tables e below (T.setTop { method := m, pc := pc, locals := Ls, stack := _ :: rest, locked := none }) _
  jvm_step X.here [X.here.top, hx, hd, hm', hret, hn]
  first | (intro acts; rw [hl _ acts rfl rfl rfl]) | rw [hl _ _ rfl rfl rfl]
  exact Steps.refl _
end New
variable {Z : State} {h h' : Heap} {C n d : String} {v w : Value} {ws : List Addr}
theorem own_staKeep (F : Sta Z h C n d v) (K : Keep h h' ws) (q : ∀ x ∈ ws, ∀ c : Cell, h[x]? = some c → c.vm.isStatics = false) : Sta Z h' C n d v := by
  obtain ⟨cf, i, k, f, st, cell, h1, h2, h3, h4, h5, h6, h7⟩ := F
  refine ⟨cf, i, k, f, st, cell, h1, h2, h3, h4, K.2.1 _ _ h5 (fun r => ?_), h6, h7⟩
  rw [q _ r _ h5] at h6; cases h6
theorem own_staNew {n0 : Nat} (F : Sta Z h C n d v) (K : Keep h h' ws) (hn : ∀ x ∈ ws, n0 ≤ x) (hs : ∀ (x : Addr) (c : Cell), h[x]? = some c → c.vm.isStatics = true → x < n0) : Sta Z h' C n d v := by
  obtain ⟨cf, i, k, f, st, cell, h1, h2, h3, h4, h5, h6, h7⟩ := F
  exact ⟨cf, i, k, f, st, cell, h1, h2, h3, h4, K.2.1 _ _ h5 (fun r => absurd (hs _ _ h5 h6) (Nat.not_lt.mpr (hn _ r))), h6, h7⟩
theorem own_fldI {args : Array Value} {s : State} {t : Term} {a : Addr} {C n d : String} {k : Int32} (ht : t.eval args s none [] s = some (.ref a)) (h : (Cond.eq (.field t C n d) (.int k)).value args s none s [] = some true) : Fld s s.heap a C n d (.int k) := Fld.start ((fld_at ht).symm.trans (eqv_i rfl h))
theorem own_fldR {args : Array Value} {s : State} {t u : Term} {a b : Addr} {C n d : String} (ht : t.eval args s none [] s = some (.ref a)) (hu : u.eval args s none [] s = some (.ref b)) (h : (Cond.eq (.field t C n d) u).value args s none s [] = some true) : Fld s s.heap a C n d (.ref b) := by
  obtain ⟨x, y, ex, ey, kx, ky⟩ := cmp_v (Or.inl h)
  have e1 : s.fieldOf? a C n d = some x := by rw [← fld_at ht]; exact ex
  cases hu.symm.trans ey
  have q : x = .ref b := by
    cases x <;> simp [Cond.value, ex, hu] at h ⊢
    exact h
  exact Fld.start (by rw [e1, q])
theorem own_staL {args : Array Value} {s : State} {C n d : String} {k : Int64} (h : (Cond.eq (.static C n d) (.long k)).value args s none s [] = some true) : (Term.static C n d).eval args s none [] s = some (.long k) := eqv_l rfl h
end Jvm.RoadKit
namespace Jvm.Pilot.@@N@@
open Jvm Jvm.ClassFile Sem Op Lib Jvm.Free Jvm.Stand Jvm.LawKit Jvm.RoadKit Bundle Jvm.Pilot.@@N@@.Jvm.D
theorem pd___Z : parseMethodDescriptor "()Z" = some ⟨[], some .boolean⟩ := by decide +kernel
theorem own_k (x : Int32) : ((x &&& 2147483647) % 7) = 0 ∨ ((x &&& 2147483647) % 7) = 1 ∨ ((x &&& 2147483647) % 7) = 2 ∨ ((x &&& 2147483647) % 7) = 3 ∨ ((x &&& 2147483647) % 7) = 4 ∨ ((x &&& 2147483647) % 7) = 5 ∨ ((x &&& 2147483647) % 7) = 6 := by
  have h : (x &&& 2147483647).toInt = x.toInt % 2147483648 := c_mask x 2147483647 31 (by decide) (by decide)
  have h2 : ((x &&& 2147483647) % 7).toInt = (x &&& 2147483647).toInt % 7 := (c_irem (x &&& 2147483647) 7 7 (by rfl)).1 (by omega)
  have e : (((x &&& 2147483647) % 7)).toInt = 0 ∨ (((x &&& 2147483647) % 7)).toInt = 1 ∨ (((x &&& 2147483647) % 7)).toInt = 2 ∨ (((x &&& 2147483647) % 7)).toInt = 3 ∨ (((x &&& 2147483647) % 7)).toInt = 4 ∨ (((x &&& 2147483647) % 7)).toInt = 5 ∨ (((x &&& 2147483647) % 7)).toInt = 6 := by omega
  rcases e with e | e | e | e | e | e | e
  · exact (Or.inl (Int32.toInt_inj.mp (e.trans (by rfl))))
  · exact (Or.inr (Or.inl (Int32.toInt_inj.mp (e.trans (by rfl)))))
  · exact (Or.inr (Or.inr (Or.inl (Int32.toInt_inj.mp (e.trans (by rfl))))))
  · exact (Or.inr (Or.inr (Or.inr (Or.inl (Int32.toInt_inj.mp (e.trans (by rfl)))))))
  · exact (Or.inr (Or.inr (Or.inr (Or.inr (Or.inl (Int32.toInt_inj.mp (e.trans (by rfl))))))))
  · exact (Or.inr (Or.inr (Or.inr (Or.inr (Or.inr (Or.inl (Int32.toInt_inj.mp (e.trans (by rfl)))))))))
  · exact (Or.inr (Or.inr (Or.inr (Or.inr (Or.inr (Or.inr (Int32.toInt_inj.mp (e.trans (by rfl)))))))))
def own_waits (a b3 b4 b5 b6 : Addr) : Int32 := if a = b3 then 1 else if a = b4 then 1 else if a = b5 then 1 else if a = b6 then 1 else 0
def own_exp (k : Int32) : Int32 := if k < 3 then 0 else 1
theorem d1_0 : decode prog_14_method_5_code 0 = .ok (.aload_n 0, 1) := by decide +kernel
theorem d1_1 : decode prog_14_method_5_code 1 = .ok (.getstatic 13, 3) := by decide +kernel
theorem d1_4 : decode prog_14_method_5_code 4 = .ok (.if_acmp .eq 24, 3) := by decide +kernel
theorem d1_7 : decode prog_14_method_5_code 7 = .ok (.aload_n 0, 1) := by decide +kernel
theorem d1_8 : decode prog_14_method_5_code 8 = .ok (.getstatic 16, 3) := by decide +kernel
theorem d1_11 : decode prog_14_method_5_code 11 = .ok (.if_acmp .eq 17, 3) := by decide +kernel
theorem d1_14 : decode prog_14_method_5_code 14 = .ok (.aload_n 0, 1) := by decide +kernel
theorem d1_15 : decode prog_14_method_5_code 15 = .ok (.getstatic 19, 3) := by decide +kernel
theorem d1_18 : decode prog_14_method_5_code 18 = .ok (.if_acmp .eq 10, 3) := by decide +kernel
theorem d1_21 : decode prog_14_method_5_code 21 = .ok (.aload_n 0, 1) := by decide +kernel
theorem d1_22 : decode prog_14_method_5_code 22 = .ok (.getstatic 22, 3) := by decide +kernel
theorem d1_25 : decode prog_14_method_5_code 25 = .ok (.if_acmp .ne 7, 3) := by decide +kernel
theorem d1_28 : decode prog_14_method_5_code 28 = .ok (.iconst 1, 1) := by decide +kernel
theorem d1_29 : decode prog_14_method_5_code 29 = .ok (.goto 4, 3) := by decide +kernel
theorem d1_32 : decode prog_14_method_5_code 32 = .ok (.iconst 0, 1) := by decide +kernel
theorem d1_33 : decode prog_14_method_5_code 33 = .ok (.ireturn, 1) := by decide +kernel
theorem ef_1 (m : MethodId) (x0 : Addr) : entryFrame m #[(.ref x0)] 1 = mkF m 0 #[.val (.ref x0)] [] := by first | (simp [entryFrame, mkF, argsToLocals, Value.category]; done) | rfl
theorem pn_com_example_admit_admit_core_Explanation_Verdict : plainName "com/example/admit/admit/core/Explanation$Verdict" = true := by first | (simp [plainName, overriddenIn]; done) | decide +kernel
def Q_1 (Z : State) (a1 : Addr) (b3 b4 b5 b6 : Addr) (r : Int32) (h0 : Heap) (n0 : Nat) (v : Option Value) (h : Heap) (L : List Loc) : Prop := v = some (.int r) ∧ Fr n0 L ∧ h = h0
set_option maxRecDepth 65536 in
set_option maxHeartbeats 40000000 in
theorem rm_1 (l : Launch) (Z : State) (a0 : Array Value) (hw : ∀ d ∈ tables_1, d.before a0 Z = true) (ws : List Jvm.Cond) (a1 : Addr) (b3 b4 b5 b6 : Addr) (r : Int32) (h0 : Heap) (n0 : Nat) (Z0 : n0 ≤ h0.size) (S_b3 : Sta Z h0 "com/example/admit/admit/core/Explanation$Verdict" "NO_WORKERS_SEEN" "Lcom/example/admit/admit/core/Explanation$Verdict;" (.ref b3)) (S_b4 : Sta Z h0 "com/example/admit/admit/core/Explanation$Verdict" "NEVER_FITS" "Lcom/example/admit/admit/core/Explanation$Verdict;" (.ref b4)) (S_b5 : Sta Z h0 "com/example/admit/admit/core/Explanation$Verdict" "WAITING_FOR_CAPACITY" "Lcom/example/admit/admit/core/Explanation$Verdict;" (.ref b5)) (S_b6 : Sta Z h0 "com/example/admit/admit/core/Explanation$Verdict" "FITS_NOW" "Lcom/example/admit/admit/core/Explanation$Verdict;" (.ref b6)) (hsp : own_waits a1 b3 b4 b5 b6 = r) :
    MetFree l (⟨"com/example/admit/admit/core/Explanation$Verdict", "waitsForAWorker", "()Z"⟩ : MethodName) (head1 (Jvm.Cond.code (⟨"com/example/admit/admit/core/Explanation$Verdict", "waitsForAWorker", "()Z"⟩ : MethodName) prog_14_method_5_code 1 (some .boolean) :: ws) ({ frames := 0, cells := 0, slots := 0, locals := 0 } : Room)) (fun a U => a = #[(.ref a1)] ∧ Z.Warmed39 U.vm ∧ U.heap = h0) (fun _ _ _ _ _ => True) (fun _ U o U' => ∃ v L, o = .returned v ∧ Q_1 Z a1 b3 b4 b5 b6 r h0 n0 v U'.heap L ∧ FrameEnd U o U' L ({ frames := 0, cells := 0, slots := 0, locals := 0 } : Room).cells ({ frames := 0, cells := 0, slots := 0, locals := 0 } : Room).slots) := by
  refine MetFree.of_bodySF (plainFor_of_name pn_com_example_admit_admit_core_Explanation_Verdict) hisR ?_
  intro p e s m args below meth c s₁ Bd hml0 hP hK
  obtain ⟨rfl, hZ, hh⟩ := hP
  have hx := Bd.exec
  have hby := Bd.bytes
  have hml : c.maxLocals = 1 := hml0
  have hown : s.vm.findClass "com/example/admit/admit/core/Explanation$Verdict" = some m.cls := findClass_of_methodNamed Bd.named
  have hnm := (name_of_methodNamed Bd.named Bd.method).1
  have X0 : Stand p l e ({ frames := 0, cells := 0, slots := 0, locals := 0 } : Room) s m #[(.ref a1)] below meth c s₁ [] 0 0 := Stand.of_body Bd
  have e0 : s₁.heap = h0 := by rw [← hh, Bd.state]; rfl
  have N0 := Fr.nil n0
  have pw0 : ∀ t, Steps p.tables e below (s₁.setTop (mkF m 0 #[.val (.ref a1)] [])) t → Steps p.tables e below (s₁.setTop (entryFrame m #[(.ref a1)] 1)) t := fun t k => castTop (ef_1 m a1) k
  have K0 : Keep h0 h0 [] := Keep.refl h0 []
  obtain ⟨T1, X1, e1, st1⟩ := getS2 X0 hx hZ hown (host := "") (Or.inl (hw _ (List.mem_of_getElem? (i := 24) rfl))) Via.refl e0 S_b3 (g := (mkF m 1 #[.val (.ref a1)] [(.ref a1)])) rfl (hb hby d1_1)
  have pw2 : ∀ t, Steps p.tables e below (T1.setTop (mkF m 4 #[.val (.ref a1)] [(.ref b3), (.ref a1)])) t → Steps p.tables e below (s₁.setTop (entryFrame m #[(.ref a1)] 1)) t := by
    intro t k
    refine pw0 t ?_
    refine XS.aloadN X0.here hx rfl (hb hby d1_0) rfl rfl ?_
    show Steps p.tables e below (s₁.setTop (mkF m 1 #[.val (.ref a1)] [(.ref a1)])) _
    refine st1 _ ?_
    show Steps p.tables e below (T1.setTop (mkF m 4 #[.val (.ref a1)] [(.ref b3), (.ref a1)])) _
    exact k
  by_cases ha3 : a1 = b3
  · skip
    obtain ⟨fs, hr, hrun, hended, hW, hsame⟩ := X1.leave (v := some (.int (1 : Int32))) (fun h => by rw [Bd.returns] at h; cases h)
    refine ⟨_, _, pw2 _ ?_, hrun, hended, _, _, rfl, ?_, ⟨_, rfl⟩, hW, hsame.mono (by decide) (by decide)⟩
    · skip
      refine Jvm.RoadKit.acmp (g := (mkF m 4 #[.val (.ref a1)] [(.ref b3), (.ref a1)])) X1 hx rfl rfl rfl (pc0 := 4) (pc' := 28) (same := true) rfl (hb hby d1_4) rfl (decide_eq_true (congrArg Value.ref ha3)) (by decide) (by decide) ?_
      show Steps p.tables e below (T1.setTop (mkF m 28 #[.val (.ref a1)] [])) _
      refine XS.iconst X1.here hx rfl (hb hby d1_28) ?_
      show Steps p.tables e below (T1.setTop (mkF m 29 #[.val (.ref a1)] [(.int (1 : Int32))])) _
      refine XS.goto X1.here hx rfl (pc0 := 29) (pc' := 33) rfl (hb hby d1_29) (by decide) (by decide) ?_
      show Steps p.tables e below (T1.setTop (mkF m 33 #[.val (.ref a1)] [(.int (1 : Int32))])) _
      exact retN X1 hx (t := .boolean) Bd.returns (by simp) (hb hby d1_33) hr
    · show Q_1 Z a1 b3 b4 b5 b6 r h0 n0 _ T1.heap _
      rw [e1]
      exact ⟨by rw [← hsp]; unfold own_waits; rw [if_pos ha3], N0, rfl⟩
  · skip
    obtain ⟨T4, X4, e4, st4⟩ := getS2 X1 hx hZ hown (host := "") (Or.inl (hw _ (List.mem_of_getElem? (i := 25) rfl))) Via.refl e1 S_b4 (g := (mkF m 8 #[.val (.ref a1)] [(.ref a1)])) rfl (hb hby d1_8)
    have pw5 : ∀ t, Steps p.tables e below (T4.setTop (mkF m 11 #[.val (.ref a1)] [(.ref b4), (.ref a1)])) t → Steps p.tables e below (s₁.setTop (entryFrame m #[(.ref a1)] 1)) t := by
      intro t k
      refine pw2 t ?_
      refine Jvm.RoadKit.acmp (g := (mkF m 4 #[.val (.ref a1)] [(.ref b3), (.ref a1)])) X1 hx rfl rfl rfl (pc0 := 4) (pc' := 7) (same := false) rfl (hb hby d1_4) rfl (decide_eq_false fun q => ha3 (Value.ref.inj q)) (by decide) (by decide) ?_
      show Steps p.tables e below (T1.setTop (mkF m 7 #[.val (.ref a1)] [])) _
      refine XS.aloadN X1.here hx rfl (hb hby d1_7) rfl rfl ?_
      show Steps p.tables e below (T1.setTop (mkF m 8 #[.val (.ref a1)] [(.ref a1)])) _
      refine st4 _ ?_
      show Steps p.tables e below (T4.setTop (mkF m 11 #[.val (.ref a1)] [(.ref b4), (.ref a1)])) _
      exact k
    by_cases ha6 : a1 = b4
    · skip
      obtain ⟨fs, hr, hrun, hended, hW, hsame⟩ := X4.leave (v := some (.int (1 : Int32))) (fun h => by rw [Bd.returns] at h; cases h)
      refine ⟨_, _, pw5 _ ?_, hrun, hended, _, _, rfl, ?_, ⟨_, rfl⟩, hW, hsame.mono (by decide) (by decide)⟩
      · skip
        refine Jvm.RoadKit.acmp (g := (mkF m 11 #[.val (.ref a1)] [(.ref b4), (.ref a1)])) X4 hx rfl rfl rfl (pc0 := 11) (pc' := 28) (same := true) rfl (hb hby d1_11) rfl (decide_eq_true (congrArg Value.ref ha6)) (by decide) (by decide) ?_
        show Steps p.tables e below (T4.setTop (mkF m 28 #[.val (.ref a1)] [])) _
        refine XS.iconst X4.here hx rfl (hb hby d1_28) ?_
        show Steps p.tables e below (T4.setTop (mkF m 29 #[.val (.ref a1)] [(.int (1 : Int32))])) _
        refine XS.goto X4.here hx rfl (pc0 := 29) (pc' := 33) rfl (hb hby d1_29) (by decide) (by decide) ?_
        show Steps p.tables e below (T4.setTop (mkF m 33 #[.val (.ref a1)] [(.int (1 : Int32))])) _
        exact retN X4 hx (t := .boolean) Bd.returns (by simp) (hb hby d1_33) hr
      · show Q_1 Z a1 b3 b4 b5 b6 r h0 n0 _ T4.heap _
        rw [e4]
        exact ⟨by rw [← hsp]; unfold own_waits; rw [if_neg ha3, if_pos ha6], N0, rfl⟩
    · skip
      obtain ⟨T7, X7, e7, st7⟩ := getS2 X4 hx hZ hown (host := "") (Or.inl (hw _ (List.mem_of_getElem? (i := 26) rfl))) Via.refl e4 S_b5 (g := (mkF m 15 #[.val (.ref a1)] [(.ref a1)])) rfl (hb hby d1_15)
      have pw8 : ∀ t, Steps p.tables e below (T7.setTop (mkF m 18 #[.val (.ref a1)] [(.ref b5), (.ref a1)])) t → Steps p.tables e below (s₁.setTop (entryFrame m #[(.ref a1)] 1)) t := by
        intro t k
        refine pw5 t ?_
        refine Jvm.RoadKit.acmp (g := (mkF m 11 #[.val (.ref a1)] [(.ref b4), (.ref a1)])) X4 hx rfl rfl rfl (pc0 := 11) (pc' := 14) (same := false) rfl (hb hby d1_11) rfl (decide_eq_false fun q => ha6 (Value.ref.inj q)) (by decide) (by decide) ?_
        show Steps p.tables e below (T4.setTop (mkF m 14 #[.val (.ref a1)] [])) _
        refine XS.aloadN X4.here hx rfl (hb hby d1_14) rfl rfl ?_
        show Steps p.tables e below (T4.setTop (mkF m 15 #[.val (.ref a1)] [(.ref a1)])) _
        refine st7 _ ?_
        show Steps p.tables e below (T7.setTop (mkF m 18 #[.val (.ref a1)] [(.ref b5), (.ref a1)])) _
        exact k
      by_cases ha9 : a1 = b5
      · skip
        obtain ⟨fs, hr, hrun, hended, hW, hsame⟩ := X7.leave (v := some (.int (1 : Int32))) (fun h => by rw [Bd.returns] at h; cases h)
        refine ⟨_, _, pw8 _ ?_, hrun, hended, _, _, rfl, ?_, ⟨_, rfl⟩, hW, hsame.mono (by decide) (by decide)⟩
        · skip
          refine Jvm.RoadKit.acmp (g := (mkF m 18 #[.val (.ref a1)] [(.ref b5), (.ref a1)])) X7 hx rfl rfl rfl (pc0 := 18) (pc' := 28) (same := true) rfl (hb hby d1_18) rfl (decide_eq_true (congrArg Value.ref ha9)) (by decide) (by decide) ?_
          show Steps p.tables e below (T7.setTop (mkF m 28 #[.val (.ref a1)] [])) _
          refine XS.iconst X7.here hx rfl (hb hby d1_28) ?_
          show Steps p.tables e below (T7.setTop (mkF m 29 #[.val (.ref a1)] [(.int (1 : Int32))])) _
          refine XS.goto X7.here hx rfl (pc0 := 29) (pc' := 33) rfl (hb hby d1_29) (by decide) (by decide) ?_
          show Steps p.tables e below (T7.setTop (mkF m 33 #[.val (.ref a1)] [(.int (1 : Int32))])) _
          exact retN X7 hx (t := .boolean) Bd.returns (by simp) (hb hby d1_33) hr
        · show Q_1 Z a1 b3 b4 b5 b6 r h0 n0 _ T7.heap _
          rw [e7]
          exact ⟨by rw [← hsp]; unfold own_waits; rw [if_neg ha3, if_neg ha6, if_pos ha9], N0, rfl⟩
      · skip
        obtain ⟨T10, X10, e10, st10⟩ := getS2 X7 hx hZ hown (host := "") (Or.inl (hw _ (List.mem_of_getElem? (i := 27) rfl))) Via.refl e7 S_b6 (g := (mkF m 22 #[.val (.ref a1)] [(.ref a1)])) rfl (hb hby d1_22)
        have pw11 : ∀ t, Steps p.tables e below (T10.setTop (mkF m 25 #[.val (.ref a1)] [(.ref b6), (.ref a1)])) t → Steps p.tables e below (s₁.setTop (entryFrame m #[(.ref a1)] 1)) t := by
          intro t k
          refine pw8 t ?_
          refine Jvm.RoadKit.acmp (g := (mkF m 18 #[.val (.ref a1)] [(.ref b5), (.ref a1)])) X7 hx rfl rfl rfl (pc0 := 18) (pc' := 21) (same := false) rfl (hb hby d1_18) rfl (decide_eq_false fun q => ha9 (Value.ref.inj q)) (by decide) (by decide) ?_
          show Steps p.tables e below (T7.setTop (mkF m 21 #[.val (.ref a1)] [])) _
          refine XS.aloadN X7.here hx rfl (hb hby d1_21) rfl rfl ?_
          show Steps p.tables e below (T7.setTop (mkF m 22 #[.val (.ref a1)] [(.ref a1)])) _
          refine st10 _ ?_
          show Steps p.tables e below (T10.setTop (mkF m 25 #[.val (.ref a1)] [(.ref b6), (.ref a1)])) _
          exact k
        by_cases ha12 : a1 = b6
        · skip
          obtain ⟨fs, hr, hrun, hended, hW, hsame⟩ := X10.leave (v := some (.int (1 : Int32))) (fun h => by rw [Bd.returns] at h; cases h)
          refine ⟨_, _, pw11 _ ?_, hrun, hended, _, _, rfl, ?_, ⟨_, rfl⟩, hW, hsame.mono (by decide) (by decide)⟩
          · skip
            refine Jvm.RoadKit.acmp (g := (mkF m 25 #[.val (.ref a1)] [(.ref b6), (.ref a1)])) X10 hx rfl rfl rfl (pc0 := 25) (pc' := 28) (same := true) rfl (hb hby d1_25) rfl (decide_eq_true (congrArg Value.ref ha12)) (by decide) (by decide) ?_
            show Steps p.tables e below (T10.setTop (mkF m 28 #[.val (.ref a1)] [])) _
            refine XS.iconst X10.here hx rfl (hb hby d1_28) ?_
            show Steps p.tables e below (T10.setTop (mkF m 29 #[.val (.ref a1)] [(.int (1 : Int32))])) _
            refine XS.goto X10.here hx rfl (pc0 := 29) (pc' := 33) rfl (hb hby d1_29) (by decide) (by decide) ?_
            show Steps p.tables e below (T10.setTop (mkF m 33 #[.val (.ref a1)] [(.int (1 : Int32))])) _
            exact retN X10 hx (t := .boolean) Bd.returns (by simp) (hb hby d1_33) hr
          · show Q_1 Z a1 b3 b4 b5 b6 r h0 n0 _ T10.heap _
            rw [e10]
            exact ⟨by rw [← hsp]; unfold own_waits; rw [if_neg ha3, if_neg ha6, if_neg ha9, if_pos ha12], N0, rfl⟩
        · skip
          obtain ⟨fs, hr, hrun, hended, hW, hsame⟩ := X10.leave (v := some (.int (0 : Int32))) (fun h => by rw [Bd.returns] at h; cases h)
          refine ⟨_, _, pw11 _ ?_, hrun, hended, _, _, rfl, ?_, ⟨_, rfl⟩, hW, hsame.mono (by decide) (by decide)⟩
          · skip
            refine Jvm.RoadKit.acmp (g := (mkF m 25 #[.val (.ref a1)] [(.ref b6), (.ref a1)])) X10 hx rfl rfl rfl (pc0 := 25) (pc' := 32) (same := false) rfl (hb hby d1_25) rfl (decide_eq_false fun q => ha12 (Value.ref.inj q)) (by decide) (by decide) ?_
            show Steps p.tables e below (T10.setTop (mkF m 32 #[.val (.ref a1)] [])) _
            refine XS.iconst X10.here hx rfl (hb hby d1_32) ?_
            show Steps p.tables e below (T10.setTop (mkF m 33 #[.val (.ref a1)] [(.int (0 : Int32))])) _
            exact retN X10 hx (t := .boolean) Bd.returns (by simp) (hb hby d1_33) hr
          · show Q_1 Z a1 b3 b4 b5 b6 r h0 n0 _ T10.heap _
            rw [e10]
            exact ⟨by rw [← hsp]; unfold own_waits; rw [if_neg ha3, if_neg ha6, if_neg ha9, if_neg ha12], N0, rfl⟩
theorem ef_0 (m : MethodId) (x0 : Int32) : entryFrame m #[(.int x0)] maxLocals = mkF m 0 #[.val (.int x0), .unset, .unset, .unset, .unset] [] := by first | (simp [entryFrame, mkF, argsToLocals, Value.category, maxLocals]; done) | rfl
theorem pn_com_example_admit_admit_core_VerdictWaitsForAWorkerPinLaw : plainName "com/example/admit/admit/core/VerdictWaitsForAWorkerPinLaw" = true := by first | (simp [plainName, overriddenIn]; done) | decide +kernel
def Q_0 (Z : State) (x0 : Int32) (b0 b1 b2 b3 b4 b5 b6 r : Addr) (q : Int32) (h0 : Heap) (n0 : Nat) (v : Option Value) (h : Heap) (L : List Loc) : Prop := v = some (.int 1) ∧ Fr n0 L
set_option maxRecDepth 65536 in
set_option maxHeartbeats 40000000 in
theorem rm_0 (l : Launch) (Z : State) (a0 : Array Value) (hw : ∀ d ∈ tables_1, d.before a0 Z = true) (ws : List Jvm.Cond) (x0 : Int32) (b0 b1 b2 b3 b4 b5 b6 r : Addr) (q : Int32) (h0 : Heap) (n0 : Nat) (Z0 : n0 ≤ h0.size) (S_b0 : Sta Z h0 "com/example/admit/admit/core/Explanation$Verdict" "NOT_WAITING" "Lcom/example/admit/admit/core/Explanation$Verdict;" (.ref b0)) (S_b1 : Sta Z h0 "com/example/admit/admit/core/Explanation$Verdict" "WAITING_FOR_ACTIVATION" "Lcom/example/admit/admit/core/Explanation$Verdict;" (.ref b1)) (S_b2 : Sta Z h0 "com/example/admit/admit/core/Explanation$Verdict" "WAITING_FOR_TIME" "Lcom/example/admit/admit/core/Explanation$Verdict;" (.ref b2)) (S_b3 : Sta Z h0 "com/example/admit/admit/core/Explanation$Verdict" "NO_WORKERS_SEEN" "Lcom/example/admit/admit/core/Explanation$Verdict;" (.ref b3)) (S_b4 : Sta Z h0 "com/example/admit/admit/core/Explanation$Verdict" "NEVER_FITS" "Lcom/example/admit/admit/core/Explanation$Verdict;" (.ref b4)) (S_b5 : Sta Z h0 "com/example/admit/admit/core/Explanation$Verdict" "WAITING_FOR_CAPACITY" "Lcom/example/admit/admit/core/Explanation$Verdict;" (.ref b5)) (S_b6 : Sta Z h0 "com/example/admit/admit/core/Explanation$Verdict" "FITS_NOW" "Lcom/example/admit/admit/core/Explanation$Verdict;" (.ref b6)) (E_r : Exa Z h0 r "com/example/admit/admit/core/Explanation$Verdict") (E_b0 : Exa Z h0 b0 "com/example/admit/admit/core/Explanation$Verdict") (E_b1 : Exa Z h0 b1 "com/example/admit/admit/core/Explanation$Verdict") (E_b2 : Exa Z h0 b2 "com/example/admit/admit/core/Explanation$Verdict") (E_b3 : Exa Z h0 b3 "com/example/admit/admit/core/Explanation$Verdict") (E_b4 : Exa Z h0 b4 "com/example/admit/admit/core/Explanation$Verdict") (E_b5 : Exa Z h0 b5 "com/example/admit/admit/core/Explanation$Verdict") (E_b6 : Exa Z h0 b6 "com/example/admit/admit/core/Explanation$Verdict") (hkk : ¬ (((x0 &&& (2147483647 : Int32)) % (7 : Int32)) < 0) ∧ ((x0 &&& (2147483647 : Int32)) % (7 : Int32)) < (7 : Int32)) (hget : ([(.ref b0), (.ref b1), (.ref b2), (.ref b3), (.ref b4), (.ref b5), (.ref b6)] : List Value).getD (((x0 &&& (2147483647 : Int32)) % (7 : Int32))).toNatClampNeg .null = .ref r) (hq : own_waits r b3 b4 b5 b6 = q) (he : own_exp ((x0 &&& (2147483647 : Int32)) % (7 : Int32)) = q) :
    MetFree l x (head1 (Jvm.Cond.code x code maxLocals ret :: ws) room_1) (fun a U => a = #[(.int x0)] ∧ Z.Warmed39 U.vm ∧ U.heap = h0) (fun _ _ _ _ _ => True) (fun _ U o U' => ∃ v L, o = .returned v ∧ Q_0 Z x0 b0 b1 b2 b3 b4 b5 b6 r q h0 n0 v U'.heap L ∧ FrameEnd U o U' L room_1.cells room_1.slots) := by
  refine MetFree.of_bodySF (plainFor_of_name pn_com_example_admit_admit_core_VerdictWaitsForAWorkerPinLaw) hisR ?_
  intro p e s m args below meth c s₁ Bd hml0 hP hK
  obtain ⟨rfl, hZ, hh⟩ := hP
  have hx := Bd.exec
  have hby := Bd.bytes
  have hml : c.maxLocals = 5 := hml0
  have hown : s.vm.findClass "com/example/admit/admit/core/VerdictWaitsForAWorkerPinLaw" = some m.cls := findClass_of_methodNamed Bd.named
  have hnm := (name_of_methodNamed Bd.named Bd.method).1
  have X0 : Stand p l e room_1 s m #[(.int x0)] below meth c s₁ [] 0 0 := Stand.of_body Bd
  have e0 : s₁.heap = h0 := by rw [← hh, Bd.state]; rfl
  have N0 := Fr.nil n0
  have pw0 : ∀ t, Steps p.tables e below (s₁.setTop (mkF m 0 #[.val (.int x0), .unset, .unset, .unset, .unset] [])) t → Steps p.tables e below (s₁.setTop (entryFrame m #[(.int x0)] maxLocals)) t := fun t k => castTop (ef_0 m x0) k
  have K0 : Keep h0 h0 [] := Keep.refl h0 []
  obtain ⟨T13, h13, k13, X13, e13, E13, A13, O13, st13⟩ := newR X0 hx hZ hown (hw _ (List.mem_of_getElem? (i := 0) rfl)) (hw _ (List.mem_of_getElem? (i := 1) rfl)) e0 (g := (mkF m 2 #[.val (.int x0), .unset, .unset, .unset, .unset] [(.int (7 : Int32))])) rfl (hb hby at_2) rfl (by decide) (cap := 7) (by decide) (by decide) (by decide) (by decide)
  obtain ⟨b13, g13⟩ : ∃ z, z = h0.size := ⟨_, rfl⟩
  rw [← g13] at A13 st13
  have g_b13 : n0 ≤ b13 := Nat.le_trans Z0 (Nat.le_of_eq g13.symm)
  have sz_b13 : h0.size ≤ b13 := Nat.le_trans K0.1 (Nat.le_of_eq g13.symm)
  have V13 : Arv Z h13 b13 k13 (.object "com/example/admit/admit/core/Explanation$Verdict") (7 : Int32) [.null, .null, .null, .null, .null, .null, .null] .null := (Arv.new A13 (by decide)).pad (pad_rep [] .null 7)
  have K13 : Keep h0 h13 [] := K0.ext E13
  have Z13 : n0 ≤ h13.size := (Nat.le_trans Z0 E13.1)
  obtain ⟨T14, X14, e14, st14⟩ := getS2 X13 hx hZ hown (host := "") (Or.inl (hw _ (List.mem_of_getElem? (i := 2) rfl))) Via.refl e13 (Sta.ext E13 S_b0) (g := (mkF m 7 #[.val (.int x0), .unset, .unset, .unset, .unset] [(.int (0 : Int32)), (.ref b13), (.ref b13)])) rfl (hb hby at_7)
  obtain ⟨c15, Arc15, qc15, Sc15, Mc15, Hsc15, Gc15⟩ := V13
  have hinc15 : ¬ ((0 : Int32) < 0 ∨ c15.slots.size ≤ ((0 : Int32)).toNatClampNeg) := inb_of Sc15 ⟨by decide, by decide⟩
  obtain ⟨T16, h16, X16, e16, W16, st16⟩ := stR X14 hx hZ e14 Arc15 (j := (0 : Int32)) hinc15 rfl (Sto.ofV Arc15 qc15 O13 (Ins.self (E_b0.ext E13))) (g := (mkF m 10 #[.val (.int x0), .unset, .unset, .unset, .unset] [(.ref b0), (.int (0 : Int32)), (.ref b13), (.ref b13)])) rfl rfl (hb hby at_10)
  have V16 := Arv.set Arc15 qc15 Sc15 Mc15 Hsc15 Gc15 rfl W16 0 rfl (Nat.le_of_ble_eq_true rfl)
  have K16 : Keep h0 h16 [] := K13.wr W16 (Or.inr sz_b13)
  have N16 := Fr.snoc X16 N0 g_b13
  have Z16 : n0 ≤ h16.size := (Nat.le_trans Z13 (Nat.le_of_eq (Wr.size W16).symm))
  obtain ⟨T17, X17, e17, st17⟩ := getS2 X16 hx hZ hown (host := "") (Or.inl (hw _ (List.mem_of_getElem? (i := 6) rfl))) Via.refl e16 (Sta.wr W16 (Sta.ext E13 S_b1)) (g := (mkF m 13 #[.val (.int x0), .unset, .unset, .unset, .unset] [(.int (1 : Int32)), (.ref b13), (.ref b13)])) rfl (hb hby at_13)
  obtain ⟨c18, Arc18, qc18, Sc18, Mc18, Hsc18, Gc18⟩ := V16
  have hinc18 : ¬ ((1 : Int32) < 0 ∨ c18.slots.size ≤ ((1 : Int32)).toNatClampNeg) := inb_of Sc18 ⟨by decide, by decide⟩
  obtain ⟨T19, h19, X19, e19, W19, st19⟩ := stR X17 hx hZ e17 Arc18 (j := (1 : Int32)) hinc18 rfl (Sto.ofV Arc18 qc18 O13 (Ins.self ((E_b1.ext E13).wr W16))) (g := (mkF m 16 #[.val (.int x0), .unset, .unset, .unset, .unset] [(.ref b1), (.int (1 : Int32)), (.ref b13), (.ref b13)])) rfl rfl (hb hby at_16)
  have V19 := Arv.set Arc18 qc18 Sc18 Mc18 Hsc18 Gc18 rfl W19 1 rfl (Nat.le_of_ble_eq_true rfl)
  have K19 : Keep h0 h19 [] := K16.wr W19 (Or.inr sz_b13)
  have N19 := Fr.snoc X19 N16 g_b13
  have Z19 : n0 ≤ h19.size := (Nat.le_trans Z16 (Nat.le_of_eq (Wr.size W19).symm))
  obtain ⟨T20, X20, e20, st20⟩ := getS2 X19 hx hZ hown (host := "") (Or.inl (hw _ (List.mem_of_getElem? (i := 8) rfl))) Via.refl e19 (Sta.wr W19 (Sta.wr W16 (Sta.ext E13 S_b2))) (g := (mkF m 19 #[.val (.int x0), .unset, .unset, .unset, .unset] [(.int (2 : Int32)), (.ref b13), (.ref b13)])) rfl (hb hby at_19)
  obtain ⟨c21, Arc21, qc21, Sc21, Mc21, Hsc21, Gc21⟩ := V19
  have hinc21 : ¬ ((2 : Int32) < 0 ∨ c21.slots.size ≤ ((2 : Int32)).toNatClampNeg) := inb_of Sc21 ⟨by decide, by decide⟩
  obtain ⟨T22, h22, X22, e22, W22, st22⟩ := stR X20 hx hZ e20 Arc21 (j := (2 : Int32)) hinc21 rfl (Sto.ofV Arc21 qc21 O13 (Ins.self (((E_b2.ext E13).wr W16).wr W19))) (g := (mkF m 22 #[.val (.int x0), .unset, .unset, .unset, .unset] [(.ref b2), (.int (2 : Int32)), (.ref b13), (.ref b13)])) rfl rfl (hb hby at_22)
  have V22 := Arv.set Arc21 qc21 Sc21 Mc21 Hsc21 Gc21 rfl W22 2 rfl (Nat.le_of_ble_eq_true rfl)
  have K22 : Keep h0 h22 [] := K19.wr W22 (Or.inr sz_b13)
  have N22 := Fr.snoc X22 N19 g_b13
  have Z22 : n0 ≤ h22.size := (Nat.le_trans Z19 (Nat.le_of_eq (Wr.size W22).symm))
  obtain ⟨T23, X23, e23, st23⟩ := getS2 X22 hx hZ hown (host := "") (Or.inl (hw _ (List.mem_of_getElem? (i := 10) rfl))) Via.refl e22 (Sta.wr W22 (Sta.wr W19 (Sta.wr W16 (Sta.ext E13 S_b3)))) (g := (mkF m 25 #[.val (.int x0), .unset, .unset, .unset, .unset] [(.int (3 : Int32)), (.ref b13), (.ref b13)])) rfl (hb hby at_25)
  obtain ⟨c24, Arc24, qc24, Sc24, Mc24, Hsc24, Gc24⟩ := V22
  have hinc24 : ¬ ((3 : Int32) < 0 ∨ c24.slots.size ≤ ((3 : Int32)).toNatClampNeg) := inb_of Sc24 ⟨by decide, by decide⟩
  obtain ⟨T25, h25, X25, e25, W25, st25⟩ := stR X23 hx hZ e23 Arc24 (j := (3 : Int32)) hinc24 rfl (Sto.ofV Arc24 qc24 O13 (Ins.self ((((E_b3.ext E13).wr W16).wr W19).wr W22))) (g := (mkF m 28 #[.val (.int x0), .unset, .unset, .unset, .unset] [(.ref b3), (.int (3 : Int32)), (.ref b13), (.ref b13)])) rfl rfl (hb hby at_28)
  have V25 := Arv.set Arc24 qc24 Sc24 Mc24 Hsc24 Gc24 rfl W25 3 rfl (Nat.le_of_ble_eq_true rfl)
  have K25 : Keep h0 h25 [] := K22.wr W25 (Or.inr sz_b13)
  have N25 := Fr.snoc X25 N22 g_b13
  have Z25 : n0 ≤ h25.size := (Nat.le_trans Z22 (Nat.le_of_eq (Wr.size W25).symm))
  obtain ⟨T26, X26, e26, st26⟩ := getS2 X25 hx hZ hown (host := "") (Or.inl (hw _ (List.mem_of_getElem? (i := 12) rfl))) Via.refl e25 (Sta.wr W25 (Sta.wr W22 (Sta.wr W19 (Sta.wr W16 (Sta.ext E13 S_b4))))) (g := (mkF m 31 #[.val (.int x0), .unset, .unset, .unset, .unset] [(.int (4 : Int32)), (.ref b13), (.ref b13)])) rfl (hb hby at_31)
  obtain ⟨c27, Arc27, qc27, Sc27, Mc27, Hsc27, Gc27⟩ := V25
  have hinc27 : ¬ ((4 : Int32) < 0 ∨ c27.slots.size ≤ ((4 : Int32)).toNatClampNeg) := inb_of Sc27 ⟨by decide, by decide⟩
  obtain ⟨T28, h28, X28, e28, W28, st28⟩ := stR X26 hx hZ e26 Arc27 (j := (4 : Int32)) hinc27 rfl (Sto.ofV Arc27 qc27 O13 (Ins.self (((((E_b4.ext E13).wr W16).wr W19).wr W22).wr W25))) (g := (mkF m 34 #[.val (.int x0), .unset, .unset, .unset, .unset] [(.ref b4), (.int (4 : Int32)), (.ref b13), (.ref b13)])) rfl rfl (hb hby at_34)
  have V28 := Arv.set Arc27 qc27 Sc27 Mc27 Hsc27 Gc27 rfl W28 4 rfl (Nat.le_of_ble_eq_true rfl)
  have K28 : Keep h0 h28 [] := K25.wr W28 (Or.inr sz_b13)
  have N28 := Fr.snoc X28 N25 g_b13
  have Z28 : n0 ≤ h28.size := (Nat.le_trans Z25 (Nat.le_of_eq (Wr.size W28).symm))
  obtain ⟨T29, X29, e29, st29⟩ := getS2 X28 hx hZ hown (host := "") (Or.inl (hw _ (List.mem_of_getElem? (i := 14) rfl))) Via.refl e28 (Sta.wr W28 (Sta.wr W25 (Sta.wr W22 (Sta.wr W19 (Sta.wr W16 (Sta.ext E13 S_b5)))))) (g := (mkF m 37 #[.val (.int x0), .unset, .unset, .unset, .unset] [(.int (5 : Int32)), (.ref b13), (.ref b13)])) rfl (hb hby at_37)
  obtain ⟨c30, Arc30, qc30, Sc30, Mc30, Hsc30, Gc30⟩ := V28
  have hinc30 : ¬ ((5 : Int32) < 0 ∨ c30.slots.size ≤ ((5 : Int32)).toNatClampNeg) := inb_of Sc30 ⟨by decide, by decide⟩
  obtain ⟨T31, h31, X31, e31, W31, st31⟩ := stR X29 hx hZ e29 Arc30 (j := (5 : Int32)) hinc30 rfl (Sto.ofV Arc30 qc30 O13 (Ins.self ((((((E_b5.ext E13).wr W16).wr W19).wr W22).wr W25).wr W28))) (g := (mkF m 40 #[.val (.int x0), .unset, .unset, .unset, .unset] [(.ref b5), (.int (5 : Int32)), (.ref b13), (.ref b13)])) rfl rfl (hb hby at_40)
  have V31 := Arv.set Arc30 qc30 Sc30 Mc30 Hsc30 Gc30 rfl W31 5 rfl (Nat.le_of_ble_eq_true rfl)
  have K31 : Keep h0 h31 [] := K28.wr W31 (Or.inr sz_b13)
  have N31 := Fr.snoc X31 N28 g_b13
  have Z31 : n0 ≤ h31.size := (Nat.le_trans Z28 (Nat.le_of_eq (Wr.size W31).symm))
  obtain ⟨T32, X32, e32, st32⟩ := getS2 X31 hx hZ hown (host := "") (Or.inl (hw _ (List.mem_of_getElem? (i := 16) rfl))) Via.refl e31 (Sta.wr W31 (Sta.wr W28 (Sta.wr W25 (Sta.wr W22 (Sta.wr W19 (Sta.wr W16 (Sta.ext E13 S_b6))))))) (g := (mkF m 44 #[.val (.int x0), .unset, .unset, .unset, .unset] [(.int (6 : Int32)), (.ref b13), (.ref b13)])) rfl (hb hby at_44)
  obtain ⟨c33, Arc33, qc33, Sc33, Mc33, Hsc33, Gc33⟩ := V31
  have hinc33 : ¬ ((6 : Int32) < 0 ∨ c33.slots.size ≤ ((6 : Int32)).toNatClampNeg) := inb_of Sc33 ⟨by decide, by decide⟩
  obtain ⟨T34, h34, X34, e34, W34, st34⟩ := stR X32 hx hZ e32 Arc33 (j := (6 : Int32)) hinc33 rfl (Sto.ofV Arc33 qc33 O13 (Ins.self (((((((E_b6.ext E13).wr W16).wr W19).wr W22).wr W25).wr W28).wr W31))) (g := (mkF m 47 #[.val (.int x0), .unset, .unset, .unset, .unset] [(.ref b6), (.int (6 : Int32)), (.ref b13), (.ref b13)])) rfl rfl (hb hby at_47)
  have V34 := Arv.set Arc33 qc33 Sc33 Mc33 Hsc33 Gc33 rfl W34 6 rfl (Nat.le_of_ble_eq_true rfl)
  have K34 : Keep h0 h34 [] := K31.wr W34 (Or.inr sz_b13)
  have N34 := Fr.snoc X34 N31 g_b13
  have Z34 : n0 ≤ h34.size := (Nat.le_trans Z31 (Nat.le_of_eq (Wr.size W34).symm))
  obtain ⟨c35, Arc35, qc35, Sc35, Mc35, Hsc35, Gc35⟩ := V34
  have hinc35 : ¬ (((x0 &&& (2147483647 : Int32)) % (7 : Int32)) < 0 ∨ c35.slots.size ≤ (((x0 &&& (2147483647 : Int32)) % (7 : Int32))).toNatClampNeg) := inb_of Sc35 hkk
  have hatc35 : c35.slots[(((x0 &&& (2147483647 : Int32)) % (7 : Int32))).toNatClampNeg]? = some (.ref r) := Hsc35.at hinc35 hget
  have pw36 : ∀ t, Steps p.tables e below (T34.setTop (mkF m 63 #[.val (.int x0), .val (.ref b13), .val (.int ((x0 &&& (2147483647 : Int32)) % (7 : Int32))), .val (.ref r), .unset] [(.int (3 : Int32)), (.int ((x0 &&& (2147483647 : Int32)) % (7 : Int32)))])) t → Steps p.tables e below (s₁.setTop (entryFrame m #[(.int x0)] maxLocals)) t := by
    intro t k
    refine pw0 t ?_
    refine XS.bipush X0.here hx rfl (hb hby at_0) ?_
    show Steps p.tables e below (s₁.setTop (mkF m 2 #[.val (.int x0), .unset, .unset, .unset, .unset] [(.int (7 : Int32))])) _
    refine st13 _ ?_
    show Steps p.tables e below (T13.setTop (mkF m 5 #[.val (.int x0), .unset, .unset, .unset, .unset] [(.ref b13)])) _
    refine XS.dup X13.here hx rfl (hb hby at_5) rfl rfl ?_
    show Steps p.tables e below (T13.setTop (mkF m 6 #[.val (.int x0), .unset, .unset, .unset, .unset] [(.ref b13), (.ref b13)])) _
    refine XS.iconst X13.here hx rfl (hb hby at_6) ?_
    show Steps p.tables e below (T13.setTop (mkF m 7 #[.val (.int x0), .unset, .unset, .unset, .unset] [(.int (0 : Int32)), (.ref b13), (.ref b13)])) _
    refine st14 _ ?_
    show Steps p.tables e below (T14.setTop (mkF m 10 #[.val (.int x0), .unset, .unset, .unset, .unset] [(.ref b0), (.int (0 : Int32)), (.ref b13), (.ref b13)])) _
    refine st16 _ ?_
    show Steps p.tables e below (T16.setTop (mkF m 11 #[.val (.int x0), .unset, .unset, .unset, .unset] [(.ref b13)])) _
    refine XS.dup X16.here hx rfl (hb hby at_11) rfl rfl ?_
    show Steps p.tables e below (T16.setTop (mkF m 12 #[.val (.int x0), .unset, .unset, .unset, .unset] [(.ref b13), (.ref b13)])) _
    refine XS.iconst X16.here hx rfl (hb hby at_12) ?_
    show Steps p.tables e below (T16.setTop (mkF m 13 #[.val (.int x0), .unset, .unset, .unset, .unset] [(.int (1 : Int32)), (.ref b13), (.ref b13)])) _
    refine st17 _ ?_
    show Steps p.tables e below (T17.setTop (mkF m 16 #[.val (.int x0), .unset, .unset, .unset, .unset] [(.ref b1), (.int (1 : Int32)), (.ref b13), (.ref b13)])) _
    refine st19 _ ?_
    show Steps p.tables e below (T19.setTop (mkF m 17 #[.val (.int x0), .unset, .unset, .unset, .unset] [(.ref b13)])) _
    refine XS.dup X19.here hx rfl (hb hby at_17) rfl rfl ?_
    show Steps p.tables e below (T19.setTop (mkF m 18 #[.val (.int x0), .unset, .unset, .unset, .unset] [(.ref b13), (.ref b13)])) _
    refine XS.iconst X19.here hx rfl (hb hby at_18) ?_
    show Steps p.tables e below (T19.setTop (mkF m 19 #[.val (.int x0), .unset, .unset, .unset, .unset] [(.int (2 : Int32)), (.ref b13), (.ref b13)])) _
    refine st20 _ ?_
    show Steps p.tables e below (T20.setTop (mkF m 22 #[.val (.int x0), .unset, .unset, .unset, .unset] [(.ref b2), (.int (2 : Int32)), (.ref b13), (.ref b13)])) _
    refine st22 _ ?_
    show Steps p.tables e below (T22.setTop (mkF m 23 #[.val (.int x0), .unset, .unset, .unset, .unset] [(.ref b13)])) _
    refine XS.dup X22.here hx rfl (hb hby at_23) rfl rfl ?_
    show Steps p.tables e below (T22.setTop (mkF m 24 #[.val (.int x0), .unset, .unset, .unset, .unset] [(.ref b13), (.ref b13)])) _
    refine XS.iconst X22.here hx rfl (hb hby at_24) ?_
    show Steps p.tables e below (T22.setTop (mkF m 25 #[.val (.int x0), .unset, .unset, .unset, .unset] [(.int (3 : Int32)), (.ref b13), (.ref b13)])) _
    refine st23 _ ?_
    show Steps p.tables e below (T23.setTop (mkF m 28 #[.val (.int x0), .unset, .unset, .unset, .unset] [(.ref b3), (.int (3 : Int32)), (.ref b13), (.ref b13)])) _
    refine st25 _ ?_
    show Steps p.tables e below (T25.setTop (mkF m 29 #[.val (.int x0), .unset, .unset, .unset, .unset] [(.ref b13)])) _
    refine XS.dup X25.here hx rfl (hb hby at_29) rfl rfl ?_
    show Steps p.tables e below (T25.setTop (mkF m 30 #[.val (.int x0), .unset, .unset, .unset, .unset] [(.ref b13), (.ref b13)])) _
    refine XS.iconst X25.here hx rfl (hb hby at_30) ?_
    show Steps p.tables e below (T25.setTop (mkF m 31 #[.val (.int x0), .unset, .unset, .unset, .unset] [(.int (4 : Int32)), (.ref b13), (.ref b13)])) _
    refine st26 _ ?_
    show Steps p.tables e below (T26.setTop (mkF m 34 #[.val (.int x0), .unset, .unset, .unset, .unset] [(.ref b4), (.int (4 : Int32)), (.ref b13), (.ref b13)])) _
    refine st28 _ ?_
    show Steps p.tables e below (T28.setTop (mkF m 35 #[.val (.int x0), .unset, .unset, .unset, .unset] [(.ref b13)])) _
    refine XS.dup X28.here hx rfl (hb hby at_35) rfl rfl ?_
    show Steps p.tables e below (T28.setTop (mkF m 36 #[.val (.int x0), .unset, .unset, .unset, .unset] [(.ref b13), (.ref b13)])) _
    refine XS.iconst X28.here hx rfl (hb hby at_36) ?_
    show Steps p.tables e below (T28.setTop (mkF m 37 #[.val (.int x0), .unset, .unset, .unset, .unset] [(.int (5 : Int32)), (.ref b13), (.ref b13)])) _
    refine st29 _ ?_
    show Steps p.tables e below (T29.setTop (mkF m 40 #[.val (.int x0), .unset, .unset, .unset, .unset] [(.ref b5), (.int (5 : Int32)), (.ref b13), (.ref b13)])) _
    refine st31 _ ?_
    show Steps p.tables e below (T31.setTop (mkF m 41 #[.val (.int x0), .unset, .unset, .unset, .unset] [(.ref b13)])) _
    refine XS.dup X31.here hx rfl (hb hby at_41) rfl rfl ?_
    show Steps p.tables e below (T31.setTop (mkF m 42 #[.val (.int x0), .unset, .unset, .unset, .unset] [(.ref b13), (.ref b13)])) _
    refine XS.bipush X31.here hx rfl (hb hby at_42) ?_
    show Steps p.tables e below (T31.setTop (mkF m 44 #[.val (.int x0), .unset, .unset, .unset, .unset] [(.int (6 : Int32)), (.ref b13), (.ref b13)])) _
    refine st32 _ ?_
    show Steps p.tables e below (T32.setTop (mkF m 47 #[.val (.int x0), .unset, .unset, .unset, .unset] [(.ref b6), (.int (6 : Int32)), (.ref b13), (.ref b13)])) _
    refine st34 _ ?_
    show Steps p.tables e below (T34.setTop (mkF m 48 #[.val (.int x0), .unset, .unset, .unset, .unset] [(.ref b13)])) _
    refine XS.astoreN X34.here hx rfl (hb hby at_48) rfl rfl (l' := #[.val (.int x0), .val (.ref b13), .unset, .unset, .unset]) rfl ?_
    show Steps p.tables e below (T34.setTop (mkF m 49 #[.val (.int x0), .val (.ref b13), .unset, .unset, .unset] [])) _
    refine XS.iloadN X34.here hx rfl (hb hby at_49) rfl ?_
    show Steps p.tables e below (T34.setTop (mkF m 50 #[.val (.int x0), .val (.ref b13), .unset, .unset, .unset] [(.int x0)])) _
    refine X34.ldcInt hx hown (mvT hZ (hw _ (List.mem_of_getElem? (i := 18) rfl))) (g := (mkF m 50 #[.val (.int x0), .val (.ref b13), .unset, .unset, .unset] [(.int x0)])) rfl (hb hby at_50) _ ?_
    show Steps p.tables e below (T34.setTop (mkF m 52 #[.val (.int x0), .val (.ref b13), .unset, .unset, .unset] [(.int (2147483647 : Int32)), (.int x0)])) _
    refine XS.iand X34.here hx rfl (hb hby at_52) rfl ?_
    show Steps p.tables e below (T34.setTop (mkF m 53 #[.val (.int x0), .val (.ref b13), .unset, .unset, .unset] [(.int (x0 &&& (2147483647 : Int32)))])) _
    refine XS.bipush X34.here hx rfl (hb hby at_53) ?_
    show Steps p.tables e below (T34.setTop (mkF m 55 #[.val (.int x0), .val (.ref b13), .unset, .unset, .unset] [(.int (7 : Int32)), (.int (x0 &&& (2147483647 : Int32)))])) _
    refine iremM (g := (mkF m 55 #[.val (.int x0), .val (.ref b13), .unset, .unset, .unset] [(.int (7 : Int32)), (.int (x0 &&& (2147483647 : Int32)))])) X34 hx rfl (hb hby at_55) rfl (by decide) ?_
    show Steps p.tables e below (T34.setTop (mkF m 56 #[.val (.int x0), .val (.ref b13), .unset, .unset, .unset] [(.int ((x0 &&& (2147483647 : Int32)) % (7 : Int32)))])) _
    refine XS.istoreN X34.here hx rfl (hb hby at_56) rfl (l' := #[.val (.int x0), .val (.ref b13), .val (.int ((x0 &&& (2147483647 : Int32)) % (7 : Int32))), .unset, .unset]) rfl ?_
    show Steps p.tables e below (T34.setTop (mkF m 57 #[.val (.int x0), .val (.ref b13), .val (.int ((x0 &&& (2147483647 : Int32)) % (7 : Int32))), .unset, .unset] [])) _
    refine XS.aloadN X34.here hx rfl (hb hby at_57) rfl rfl ?_
    show Steps p.tables e below (T34.setTop (mkF m 58 #[.val (.int x0), .val (.ref b13), .val (.int ((x0 &&& (2147483647 : Int32)) % (7 : Int32))), .unset, .unset] [(.ref b13)])) _
    refine XS.iloadN X34.here hx rfl (hb hby at_58) rfl ?_
    show Steps p.tables e below (T34.setTop (mkF m 59 #[.val (.int x0), .val (.ref b13), .val (.int ((x0 &&& (2147483647 : Int32)) % (7 : Int32))), .unset, .unset] [(.int ((x0 &&& (2147483647 : Int32)) % (7 : Int32))), (.ref b13)])) _
    refine X34.aaload hx (j := ((x0 &&& (2147483647 : Int32)) % (7 : Int32))) (v := (.ref r)) (by rw [e34]; exact Arc35.1) (State.isArrayOf_alike hZ.alike Arc35.2.1) rfl Arc35.2.2 hinc35 hatc35 (g := (mkF m 59 #[.val (.int x0), .val (.ref b13), .val (.int ((x0 &&& (2147483647 : Int32)) % (7 : Int32))), .unset, .unset] [(.int ((x0 &&& (2147483647 : Int32)) % (7 : Int32))), (.ref b13)])) rfl rfl (hb hby at_59) _ ?_
    show Steps p.tables e below (T34.setTop (mkF m 60 #[.val (.int x0), .val (.ref b13), .val (.int ((x0 &&& (2147483647 : Int32)) % (7 : Int32))), .unset, .unset] [(.ref r)])) _
    refine XS.astoreN X34.here hx rfl (hb hby at_60) rfl rfl (l' := #[.val (.int x0), .val (.ref b13), .val (.int ((x0 &&& (2147483647 : Int32)) % (7 : Int32))), .val (.ref r), .unset]) rfl ?_
    show Steps p.tables e below (T34.setTop (mkF m 61 #[.val (.int x0), .val (.ref b13), .val (.int ((x0 &&& (2147483647 : Int32)) % (7 : Int32))), .val (.ref r), .unset] [])) _
    refine XS.iloadN X34.here hx rfl (hb hby at_61) rfl ?_
    show Steps p.tables e below (T34.setTop (mkF m 62 #[.val (.int x0), .val (.ref b13), .val (.int ((x0 &&& (2147483647 : Int32)) % (7 : Int32))), .val (.ref r), .unset] [(.int ((x0 &&& (2147483647 : Int32)) % (7 : Int32)))])) _
    refine XS.iconst X34.here hx rfl (hb hby at_62) ?_
    show Steps p.tables e below (T34.setTop (mkF m 63 #[.val (.int x0), .val (.ref b13), .val (.int ((x0 &&& (2147483647 : Int32)) % (7 : Int32))), .val (.ref r), .unset] [(.int (3 : Int32)), (.int ((x0 &&& (2147483647 : Int32)) % (7 : Int32)))])) _
    exact k
  by_cases hc37 : ((x0 &&& (2147483647 : Int32)) % (7 : Int32)) < (3 : Int32)
  · skip
    obtain ⟨cq38, kq38, q38a, q38b, q38c⟩ := isOf hZ e34 ((((((((E_r.ext E13).wr W16).wr W19).wr W22).wr W25).wr W28).wr W31).wr W34)
    obtain ⟨_, _, ⟨T38, L38, k38, n38⟩, -, X38, ⟨Lc38, hQ38, l38, y38, z38⟩, st38⟩ := X34.virtualBack hx (y := (⟨"com/example/admit/admit/core/Explanation$Verdict", "waitsForAWorker", "()Z"⟩ : MethodName)) (z := (⟨"com/example/admit/admit/core/Explanation$Verdict", "waitsForAWorker", "()Z"⟩ : MethodName)) hown (mvT hZ (hw _ (List.mem_of_getElem? (i := 19) rfl))) (mvT hZ (hw _ (List.mem_of_getElem? (i := 20) rfl))) (notFace_of_selects (args := #[]) (mvT hZ (hw _ (List.mem_of_getElem? (i := 22) rfl)))) (mvT hZ (hw _ (List.mem_of_getElem? (i := 22) rfl))) (mvT hZ (hw _ (List.mem_of_getElem? (i := 21) rfl))) (by decide) (backOf (W := 0) (rm_1 l Z a0 hw [] r b3 b4 b5 b6 q h34 n0 Z34 (Sta.wr W34 (Sta.wr W31 (Sta.wr W28 (Sta.wr W25 (Sta.wr W22 (Sta.wr W19 (Sta.wr W16 (Sta.ext E13 S_b3)))))))) (Sta.wr W34 (Sta.wr W31 (Sta.wr W28 (Sta.wr W25 (Sta.wr W22 (Sta.wr W19 (Sta.wr W16 (Sta.ext E13 S_b4)))))))) (Sta.wr W34 (Sta.wr W31 (Sta.wr W28 (Sta.wr W25 (Sta.wr W22 (Sta.wr W19 (Sta.wr W16 (Sta.ext E13 S_b5)))))))) (Sta.wr W34 (Sta.wr W31 (Sta.wr W28 (Sta.wr W25 (Sta.wr W22 (Sta.wr W19 (Sta.wr W16 (Sta.ext E13 S_b6)))))))) hq) hZ (hw _ (List.mem_of_getElem? (i := 23) rfl)) (hw _ (List.mem_of_getElem? (i := 3) rfl)) (by decide) (by decide)) q38a q38c (g := (mkF m 74 #[.val (.int x0), .val (.ref b13), .val (.int ((x0 &&& (2147483647 : Int32)) % (7 : Int32))), .val (.ref r), .val (.int (0 : Int32))] [(.ref r)])) rfl (by rw [hml]; rfl) (Steps.refl _) (argsL := []) (rest := []) (lenOf pd___Z rfl) rfl (by show 2 * 0 + _ ≤ _; exact Nat.le_of_eq rfl) (hb hby at_74) (fun _ _ => ⟨rfl, e34, (by decide : 1 + 0 ≤ _), (by decide : 7 + 0 ≤ _)⟩)
    dsimp only [Pt.U, Pt.locs, Pt.cells, Pt.slots] at X38 l38 y38 z38 st38 hQ38
    subst l38 y38 z38
    obtain ⟨rfl, N38q, e38q⟩ := hQ38
    have N38 := Fr.app N34 N38q
    obtain ⟨fs, hr, hrun, hended, hW, hsame⟩ := X38.leave (v := some (.int (1 : Int32))) (fun h => by rw [Bd.returns] at h; cases h)
    refine ⟨_, _, pw36 _ ?_, hrun, hended, _, _, rfl, ?_, ⟨_, rfl⟩, hW, hsame.mono (by decide) (by decide)⟩
    · skip
      refine XS.icmpYes X34.here hx rfl (pc0 := 63) (pc' := 70) rfl (hb hby at_63) rfl (tlt hc37).1 (by decide) (by decide) ?_
      show Steps p.tables e below (T34.setTop (mkF m 70 #[.val (.int x0), .val (.ref b13), .val (.int ((x0 &&& (2147483647 : Int32)) % (7 : Int32))), .val (.ref r), .unset] [])) _
      refine XS.iconst X34.here hx rfl (hb hby at_70) ?_
      show Steps p.tables e below (T34.setTop (mkF m 71 #[.val (.int x0), .val (.ref b13), .val (.int ((x0 &&& (2147483647 : Int32)) % (7 : Int32))), .val (.ref r), .unset] [(.int (0 : Int32))])) _
      refine XS.istore X34.here hx rfl (hb hby at_71) rfl (l' := #[.val (.int x0), .val (.ref b13), .val (.int ((x0 &&& (2147483647 : Int32)) % (7 : Int32))), .val (.ref r), .val (.int (0 : Int32))]) rfl ?_
      show Steps p.tables e below (T34.setTop (mkF m 73 #[.val (.int x0), .val (.ref b13), .val (.int ((x0 &&& (2147483647 : Int32)) % (7 : Int32))), .val (.ref r), .val (.int (0 : Int32))] [])) _
      refine XS.aloadN X34.here hx rfl (hb hby at_73) rfl rfl ?_
      show Steps p.tables e below (T34.setTop (mkF m 74 #[.val (.int x0), .val (.ref b13), .val (.int ((x0 &&& (2147483647 : Int32)) % (7 : Int32))), .val (.ref r), .val (.int (0 : Int32))] [(.ref r)])) _
      refine st38.trans ?_
      show Steps p.tables e below (T38.setTop (mkF m 77 #[.val (.int x0), .val (.ref b13), .val (.int ((x0 &&& (2147483647 : Int32)) % (7 : Int32))), .val (.ref r), .val (.int (0 : Int32))] [(.int q)])) _
      refine XS.iload X38.here hx rfl (hb hby at_77) rfl ?_
      show Steps p.tables e below (T38.setTop (mkF m 79 #[.val (.int x0), .val (.ref b13), .val (.int ((x0 &&& (2147483647 : Int32)) % (7 : Int32))), .val (.ref r), .val (.int (0 : Int32))] [(.int (0 : Int32)), (.int q)])) _
      refine XS.icmpNo X38.here hx rfl (hb hby at_79) rfl (teq (he.symm.trans (if_pos hc37) : q = (0 : Int32))).2 ?_
      show Steps p.tables e below (T38.setTop (mkF m 82 #[.val (.int x0), .val (.ref b13), .val (.int ((x0 &&& (2147483647 : Int32)) % (7 : Int32))), .val (.ref r), .val (.int (0 : Int32))] [])) _
      refine XS.iconst X38.here hx rfl (hb hby at_82) ?_
      show Steps p.tables e below (T38.setTop (mkF m 83 #[.val (.int x0), .val (.ref b13), .val (.int ((x0 &&& (2147483647 : Int32)) % (7 : Int32))), .val (.ref r), .val (.int (0 : Int32))] [(.int (1 : Int32))])) _
      refine XS.goto X38.here hx rfl (pc0 := 83) (pc' := 87) rfl (hb hby at_83) (by decide) (by decide) ?_
      show Steps p.tables e below (T38.setTop (mkF m 87 #[.val (.int x0), .val (.ref b13), .val (.int ((x0 &&& (2147483647 : Int32)) % (7 : Int32))), .val (.ref r), .val (.int (0 : Int32))] [(.int (1 : Int32))])) _
      exact retN X38 hx (t := .boolean) Bd.returns (by simp) (hb hby at_87) hr
    · show Q_0 Z x0 b0 b1 b2 b3 b4 b5 b6 r q h0 n0 _ T38.heap _
      rw [e38q]
      exact ⟨rfl, N38⟩
  · skip
    obtain ⟨cq39, kq39, q39a, q39b, q39c⟩ := isOf hZ e34 ((((((((E_r.ext E13).wr W16).wr W19).wr W22).wr W25).wr W28).wr W31).wr W34)
    obtain ⟨_, _, ⟨T39, L39, k39, n39⟩, -, X39, ⟨Lc39, hQ39, l39, y39, z39⟩, st39⟩ := X34.virtualBack hx (y := (⟨"com/example/admit/admit/core/Explanation$Verdict", "waitsForAWorker", "()Z"⟩ : MethodName)) (z := (⟨"com/example/admit/admit/core/Explanation$Verdict", "waitsForAWorker", "()Z"⟩ : MethodName)) hown (mvT hZ (hw _ (List.mem_of_getElem? (i := 19) rfl))) (mvT hZ (hw _ (List.mem_of_getElem? (i := 20) rfl))) (notFace_of_selects (args := #[]) (mvT hZ (hw _ (List.mem_of_getElem? (i := 22) rfl)))) (mvT hZ (hw _ (List.mem_of_getElem? (i := 22) rfl))) (mvT hZ (hw _ (List.mem_of_getElem? (i := 21) rfl))) (by decide) (backOf (W := 0) (rm_1 l Z a0 hw [] r b3 b4 b5 b6 q h34 n0 Z34 (Sta.wr W34 (Sta.wr W31 (Sta.wr W28 (Sta.wr W25 (Sta.wr W22 (Sta.wr W19 (Sta.wr W16 (Sta.ext E13 S_b3)))))))) (Sta.wr W34 (Sta.wr W31 (Sta.wr W28 (Sta.wr W25 (Sta.wr W22 (Sta.wr W19 (Sta.wr W16 (Sta.ext E13 S_b4)))))))) (Sta.wr W34 (Sta.wr W31 (Sta.wr W28 (Sta.wr W25 (Sta.wr W22 (Sta.wr W19 (Sta.wr W16 (Sta.ext E13 S_b5)))))))) (Sta.wr W34 (Sta.wr W31 (Sta.wr W28 (Sta.wr W25 (Sta.wr W22 (Sta.wr W19 (Sta.wr W16 (Sta.ext E13 S_b6)))))))) hq) hZ (hw _ (List.mem_of_getElem? (i := 23) rfl)) (hw _ (List.mem_of_getElem? (i := 3) rfl)) (by decide) (by decide)) q39a q39c (g := (mkF m 74 #[.val (.int x0), .val (.ref b13), .val (.int ((x0 &&& (2147483647 : Int32)) % (7 : Int32))), .val (.ref r), .val (.int (1 : Int32))] [(.ref r)])) rfl (by rw [hml]; rfl) (Steps.refl _) (argsL := []) (rest := []) (lenOf pd___Z rfl) rfl (by show 2 * 0 + _ ≤ _; exact Nat.le_of_eq rfl) (hb hby at_74) (fun _ _ => ⟨rfl, e34, (by decide : 1 + 0 ≤ _), (by decide : 7 + 0 ≤ _)⟩)
    dsimp only [Pt.U, Pt.locs, Pt.cells, Pt.slots] at X39 l39 y39 z39 st39 hQ39
    subst l39 y39 z39
    obtain ⟨rfl, N39q, e39q⟩ := hQ39
    have N39 := Fr.app N34 N39q
    obtain ⟨fs, hr, hrun, hended, hW, hsame⟩ := X39.leave (v := some (.int (1 : Int32))) (fun h => by rw [Bd.returns] at h; cases h)
    refine ⟨_, _, pw36 _ ?_, hrun, hended, _, _, rfl, ?_, ⟨_, rfl⟩, hW, hsame.mono (by decide) (by decide)⟩
    · skip
      refine XS.icmpNo X34.here hx rfl (hb hby at_63) rfl (flt hc37).1 ?_
      show Steps p.tables e below (T34.setTop (mkF m 66 #[.val (.int x0), .val (.ref b13), .val (.int ((x0 &&& (2147483647 : Int32)) % (7 : Int32))), .val (.ref r), .unset] [])) _
      refine XS.iconst X34.here hx rfl (hb hby at_66) ?_
      show Steps p.tables e below (T34.setTop (mkF m 67 #[.val (.int x0), .val (.ref b13), .val (.int ((x0 &&& (2147483647 : Int32)) % (7 : Int32))), .val (.ref r), .unset] [(.int (1 : Int32))])) _
      refine XS.goto X34.here hx rfl (pc0 := 67) (pc' := 71) rfl (hb hby at_67) (by decide) (by decide) ?_
      show Steps p.tables e below (T34.setTop (mkF m 71 #[.val (.int x0), .val (.ref b13), .val (.int ((x0 &&& (2147483647 : Int32)) % (7 : Int32))), .val (.ref r), .unset] [(.int (1 : Int32))])) _
      refine XS.istore X34.here hx rfl (hb hby at_71) rfl (l' := #[.val (.int x0), .val (.ref b13), .val (.int ((x0 &&& (2147483647 : Int32)) % (7 : Int32))), .val (.ref r), .val (.int (1 : Int32))]) rfl ?_
      show Steps p.tables e below (T34.setTop (mkF m 73 #[.val (.int x0), .val (.ref b13), .val (.int ((x0 &&& (2147483647 : Int32)) % (7 : Int32))), .val (.ref r), .val (.int (1 : Int32))] [])) _
      refine XS.aloadN X34.here hx rfl (hb hby at_73) rfl rfl ?_
      show Steps p.tables e below (T34.setTop (mkF m 74 #[.val (.int x0), .val (.ref b13), .val (.int ((x0 &&& (2147483647 : Int32)) % (7 : Int32))), .val (.ref r), .val (.int (1 : Int32))] [(.ref r)])) _
      refine st39.trans ?_
      show Steps p.tables e below (T39.setTop (mkF m 77 #[.val (.int x0), .val (.ref b13), .val (.int ((x0 &&& (2147483647 : Int32)) % (7 : Int32))), .val (.ref r), .val (.int (1 : Int32))] [(.int q)])) _
      refine XS.iload X39.here hx rfl (hb hby at_77) rfl ?_
      show Steps p.tables e below (T39.setTop (mkF m 79 #[.val (.int x0), .val (.ref b13), .val (.int ((x0 &&& (2147483647 : Int32)) % (7 : Int32))), .val (.ref r), .val (.int (1 : Int32))] [(.int (1 : Int32)), (.int q)])) _
      refine XS.icmpNo X39.here hx rfl (hb hby at_79) rfl (teq (he.symm.trans (if_neg hc37) : q = (1 : Int32))).2 ?_
      show Steps p.tables e below (T39.setTop (mkF m 82 #[.val (.int x0), .val (.ref b13), .val (.int ((x0 &&& (2147483647 : Int32)) % (7 : Int32))), .val (.ref r), .val (.int (1 : Int32))] [])) _
      refine XS.iconst X39.here hx rfl (hb hby at_82) ?_
      show Steps p.tables e below (T39.setTop (mkF m 83 #[.val (.int x0), .val (.ref b13), .val (.int ((x0 &&& (2147483647 : Int32)) % (7 : Int32))), .val (.ref r), .val (.int (1 : Int32))] [(.int (1 : Int32))])) _
      refine XS.goto X39.here hx rfl (pc0 := 83) (pc' := 87) rfl (hb hby at_83) (by decide) (by decide) ?_
      show Steps p.tables e below (T39.setTop (mkF m 87 #[.val (.int x0), .val (.ref b13), .val (.int ((x0 &&& (2147483647 : Int32)) % (7 : Int32))), .val (.ref r), .val (.int (1 : Int32))] [(.int (1 : Int32))])) _
      exact retN X39 hx (t := .boolean) Bd.returns (by simp) (hb hby at_87) hr
    · show Q_0 Z x0 b0 b1 b2 b3 b4 b5 b6 r q h0 n0 _ T39.heap _
      rw [e39q]
      exact ⟨rfl, N39⟩
set_option maxRecDepth 65536 in
set_option maxHeartbeats 40000000 in
theorem comes_1 {Post : Tables → Env → Array Value → State → Outcome → State → Prop} (hpost : ∀ tb e args s v u, (limb_1_1.after args s (.returned v) u = true ∧ limb_1_2.after args s (.returned v) u = true ∧ True) → FrameEnd s (.returned v) u (Jvm.fieldLocs frame_1_writes args s ++ Jvm.arrayLocs frame_1_arrays args s ++ Jvm.staticLocs frame_1_statics s) 16 128 → Post tb e args s (.returned v) u) :
    ArmFor flags0 classFile x code maxLocals ret World_1 tables_1 room_1 Calls_1 rest_1 Pre_1 Post := by
  intro l hfl _ _ p e ha hc hk s m args below hf hA hF happ hP
  obtain ⟨hcalls, hrest, hpre⟩ := hP
  obtain ⟨-, -, -, hnamed, -, -, -, hat⟩ := (Spec.applies_iff hf).mp happ
  obtain ⟨hg, hn⟩ := and_e (Cond.before_iff.mp (show (Jvm.Cond.and given_1 narrow_1).before args s = true from hpre))
  obtain ⟨g40, g41⟩ := and_e hg
  obtain ⟨w0, rfl⟩ : ∃ w0 : Value, args = #[w0] := by
    have hs : args.size = 1 := by simpa [Cond.value, given_1] using g40
    obtain ⟨L⟩ := args
    match L, hs with
    | [w0], _ => exact ⟨w0, rfl⟩
  have hw := fun d (hd : d ∈ tables_1) => atoms_spec (ws := Jvm.Cond.code x code maxLocals ret :: tables_1) hat d (List.mem_cons_of_mem _ hd)
  have hfit : Fit s := fun {y c} hc i hi => by
    obtain ⟨ha, rfl⟩ := Array.getElem?_eq_some_iff.mp hc
    have q := List.all_eq_true.mp ((Array.all_eq_true_iff_forall_mem.mp hF) _ (Array.getElem_mem ha)) i (List.mem_range.mpr hi)
    simpa [Array.getElem?_eq_getElem hi] using q
  obtain ⟨x0, ei0⟩ := is_v g41
  obtain rfl : w0 = (.int x0) := Option.some.inj ei0
  obtain ⟨g42, g43⟩ := and_e hn
  obtain ⟨g44, g45⟩ := and_e g43
  obtain ⟨g46, g47⟩ := and_e g45
  obtain ⟨g48, g49⟩ := and_e g47
  obtain ⟨g50, g51⟩ := and_e g49
  obtain ⟨g52, g53⟩ := and_e g51
  obtain ⟨g54, g55⟩ := and_e g53
  obtain ⟨g56, g57⟩ := and_e g55
  obtain ⟨g58, g59⟩ := and_e g57
  obtain ⟨g60, g61⟩ := and_e g59
  obtain ⟨g62, g63⟩ := and_e g61
  obtain ⟨g64, g65⟩ := and_e g63
  obtain ⟨g66, g67⟩ := and_e g65
  obtain ⟨a_NOT_WAITING, ev_a_NOT_WAITING⟩ := exa_v g42
  have E_a_NOT_WAITING : Exa s s.heap a_NOT_WAITING "com/example/admit/admit/core/Explanation$Verdict" := Exa.start ev_a_NOT_WAITING g42
  have S_a_NOT_WAITING : Sta s s.heap "com/example/admit/admit/core/Explanation$Verdict" "NOT_WAITING" "Lcom/example/admit/admit/core/Explanation$Verdict;" (.ref a_NOT_WAITING) := Sta.start ev_a_NOT_WAITING (Or.inr ⟨(hw _ (List.mem_of_getElem? (i := 3) rfl)), (hw _ (List.mem_of_getElem? (i := 4) rfl))⟩)
  obtain ⟨a_WAITING_FOR_ACTIVATION, ev_a_WAITING_FOR_ACTIVATION⟩ := exa_v g44
  have E_a_WAITING_FOR_ACTIVATION : Exa s s.heap a_WAITING_FOR_ACTIVATION "com/example/admit/admit/core/Explanation$Verdict" := Exa.start ev_a_WAITING_FOR_ACTIVATION g44
  have S_a_WAITING_FOR_ACTIVATION : Sta s s.heap "com/example/admit/admit/core/Explanation$Verdict" "WAITING_FOR_ACTIVATION" "Lcom/example/admit/admit/core/Explanation$Verdict;" (.ref a_WAITING_FOR_ACTIVATION) := Sta.start ev_a_WAITING_FOR_ACTIVATION (Or.inr ⟨(hw _ (List.mem_of_getElem? (i := 3) rfl)), (hw _ (List.mem_of_getElem? (i := 7) rfl))⟩)
  obtain ⟨a_WAITING_FOR_TIME, ev_a_WAITING_FOR_TIME⟩ := exa_v g46
  have E_a_WAITING_FOR_TIME : Exa s s.heap a_WAITING_FOR_TIME "com/example/admit/admit/core/Explanation$Verdict" := Exa.start ev_a_WAITING_FOR_TIME g46
  have S_a_WAITING_FOR_TIME : Sta s s.heap "com/example/admit/admit/core/Explanation$Verdict" "WAITING_FOR_TIME" "Lcom/example/admit/admit/core/Explanation$Verdict;" (.ref a_WAITING_FOR_TIME) := Sta.start ev_a_WAITING_FOR_TIME (Or.inr ⟨(hw _ (List.mem_of_getElem? (i := 3) rfl)), (hw _ (List.mem_of_getElem? (i := 9) rfl))⟩)
  obtain ⟨a_NO_WORKERS_SEEN, ev_a_NO_WORKERS_SEEN⟩ := exa_v g48
  have E_a_NO_WORKERS_SEEN : Exa s s.heap a_NO_WORKERS_SEEN "com/example/admit/admit/core/Explanation$Verdict" := Exa.start ev_a_NO_WORKERS_SEEN g48
  have S_a_NO_WORKERS_SEEN : Sta s s.heap "com/example/admit/admit/core/Explanation$Verdict" "NO_WORKERS_SEEN" "Lcom/example/admit/admit/core/Explanation$Verdict;" (.ref a_NO_WORKERS_SEEN) := Sta.start ev_a_NO_WORKERS_SEEN (Or.inr ⟨(hw _ (List.mem_of_getElem? (i := 3) rfl)), (hw _ (List.mem_of_getElem? (i := 11) rfl))⟩)
  obtain ⟨a_NEVER_FITS, ev_a_NEVER_FITS⟩ := exa_v g50
  have E_a_NEVER_FITS : Exa s s.heap a_NEVER_FITS "com/example/admit/admit/core/Explanation$Verdict" := Exa.start ev_a_NEVER_FITS g50
  have S_a_NEVER_FITS : Sta s s.heap "com/example/admit/admit/core/Explanation$Verdict" "NEVER_FITS" "Lcom/example/admit/admit/core/Explanation$Verdict;" (.ref a_NEVER_FITS) := Sta.start ev_a_NEVER_FITS (Or.inr ⟨(hw _ (List.mem_of_getElem? (i := 3) rfl)), (hw _ (List.mem_of_getElem? (i := 13) rfl))⟩)
  obtain ⟨a_WAITING_FOR_CAPACITY, ev_a_WAITING_FOR_CAPACITY⟩ := exa_v g52
  have E_a_WAITING_FOR_CAPACITY : Exa s s.heap a_WAITING_FOR_CAPACITY "com/example/admit/admit/core/Explanation$Verdict" := Exa.start ev_a_WAITING_FOR_CAPACITY g52
  have S_a_WAITING_FOR_CAPACITY : Sta s s.heap "com/example/admit/admit/core/Explanation$Verdict" "WAITING_FOR_CAPACITY" "Lcom/example/admit/admit/core/Explanation$Verdict;" (.ref a_WAITING_FOR_CAPACITY) := Sta.start ev_a_WAITING_FOR_CAPACITY (Or.inr ⟨(hw _ (List.mem_of_getElem? (i := 3) rfl)), (hw _ (List.mem_of_getElem? (i := 15) rfl))⟩)
  obtain ⟨a_FITS_NOW, ev_a_FITS_NOW⟩ := exa_v g54
  have E_a_FITS_NOW : Exa s s.heap a_FITS_NOW "com/example/admit/admit/core/Explanation$Verdict" := Exa.start ev_a_FITS_NOW g54
  have S_a_FITS_NOW : Sta s s.heap "com/example/admit/admit/core/Explanation$Verdict" "FITS_NOW" "Lcom/example/admit/admit/core/Explanation$Verdict;" (.ref a_FITS_NOW) := Sta.start ev_a_FITS_NOW (Or.inr ⟨(hw _ (List.mem_of_getElem? (i := 3) rfl)), (hw _ (List.mem_of_getElem? (i := 17) rfl))⟩)
  have O_a_NOT_WAITING : Fld s s.heap a_NOT_WAITING "java/lang/Enum" "ordinal" "I" (.int (0 : Int32)) := own_fldI ev_a_NOT_WAITING g56
  have O_a_NO_WORKERS_SEEN : Fld s s.heap a_NO_WORKERS_SEEN "java/lang/Enum" "ordinal" "I" (.int (3 : Int32)) := own_fldI ev_a_NO_WORKERS_SEEN g58
  have O_a_NEVER_FITS : Fld s s.heap a_NEVER_FITS "java/lang/Enum" "ordinal" "I" (.int (4 : Int32)) := own_fldI ev_a_NEVER_FITS g60
  have O_a_WAITING_FOR_CAPACITY : Fld s s.heap a_WAITING_FOR_CAPACITY "java/lang/Enum" "ordinal" "I" (.int (5 : Int32)) := own_fldI ev_a_WAITING_FOR_CAPACITY g62
  have O_a_FITS_NOW : Fld s s.heap a_FITS_NOW "java/lang/Enum" "ordinal" "I" (.int (6 : Int32)) := own_fldI ev_a_FITS_NOW g64
  have O_a_WAITING_FOR_TIME : Fld s s.heap a_WAITING_FOR_TIME "java/lang/Enum" "ordinal" "I" (.int (2 : Int32)) := own_fldI ev_a_WAITING_FOR_TIME g66
  have O_a_WAITING_FOR_ACTIVATION : Fld s s.heap a_WAITING_FOR_ACTIVATION "java/lang/Enum" "ordinal" "I" (.int (1 : Int32)) := own_fldI ev_a_WAITING_FOR_ACTIVATION g67
  have ne_0_3 : a_NOT_WAITING ≠ a_NO_WORKERS_SEEN := Fld.ne O_a_NOT_WAITING O_a_NO_WORKERS_SEEN (by decide)
  have ne_0_4 : a_NOT_WAITING ≠ a_NEVER_FITS := Fld.ne O_a_NOT_WAITING O_a_NEVER_FITS (by decide)
  have ne_0_5 : a_NOT_WAITING ≠ a_WAITING_FOR_CAPACITY := Fld.ne O_a_NOT_WAITING O_a_WAITING_FOR_CAPACITY (by decide)
  have ne_0_6 : a_NOT_WAITING ≠ a_FITS_NOW := Fld.ne O_a_NOT_WAITING O_a_FITS_NOW (by decide)
  have ne_1_3 : a_WAITING_FOR_ACTIVATION ≠ a_NO_WORKERS_SEEN := Fld.ne O_a_WAITING_FOR_ACTIVATION O_a_NO_WORKERS_SEEN (by decide)
  have ne_1_4 : a_WAITING_FOR_ACTIVATION ≠ a_NEVER_FITS := Fld.ne O_a_WAITING_FOR_ACTIVATION O_a_NEVER_FITS (by decide)
  have ne_1_5 : a_WAITING_FOR_ACTIVATION ≠ a_WAITING_FOR_CAPACITY := Fld.ne O_a_WAITING_FOR_ACTIVATION O_a_WAITING_FOR_CAPACITY (by decide)
  have ne_1_6 : a_WAITING_FOR_ACTIVATION ≠ a_FITS_NOW := Fld.ne O_a_WAITING_FOR_ACTIVATION O_a_FITS_NOW (by decide)
  have ne_2_3 : a_WAITING_FOR_TIME ≠ a_NO_WORKERS_SEEN := Fld.ne O_a_WAITING_FOR_TIME O_a_NO_WORKERS_SEEN (by decide)
  have ne_2_4 : a_WAITING_FOR_TIME ≠ a_NEVER_FITS := Fld.ne O_a_WAITING_FOR_TIME O_a_NEVER_FITS (by decide)
  have ne_2_5 : a_WAITING_FOR_TIME ≠ a_WAITING_FOR_CAPACITY := Fld.ne O_a_WAITING_FOR_TIME O_a_WAITING_FOR_CAPACITY (by decide)
  have ne_2_6 : a_WAITING_FOR_TIME ≠ a_FITS_NOW := Fld.ne O_a_WAITING_FOR_TIME O_a_FITS_NOW (by decide)
  have ne_3_4 : a_NO_WORKERS_SEEN ≠ a_NEVER_FITS := Fld.ne O_a_NO_WORKERS_SEEN O_a_NEVER_FITS (by decide)
  have ne_3_5 : a_NO_WORKERS_SEEN ≠ a_WAITING_FOR_CAPACITY := Fld.ne O_a_NO_WORKERS_SEEN O_a_WAITING_FOR_CAPACITY (by decide)
  have ne_3_6 : a_NO_WORKERS_SEEN ≠ a_FITS_NOW := Fld.ne O_a_NO_WORKERS_SEEN O_a_FITS_NOW (by decide)
  have ne_4_3 : a_NEVER_FITS ≠ a_NO_WORKERS_SEEN := Fld.ne O_a_NEVER_FITS O_a_NO_WORKERS_SEEN (by decide)
  have ne_4_5 : a_NEVER_FITS ≠ a_WAITING_FOR_CAPACITY := Fld.ne O_a_NEVER_FITS O_a_WAITING_FOR_CAPACITY (by decide)
  have ne_4_6 : a_NEVER_FITS ≠ a_FITS_NOW := Fld.ne O_a_NEVER_FITS O_a_FITS_NOW (by decide)
  have ne_5_3 : a_WAITING_FOR_CAPACITY ≠ a_NO_WORKERS_SEEN := Fld.ne O_a_WAITING_FOR_CAPACITY O_a_NO_WORKERS_SEEN (by decide)
  have ne_5_4 : a_WAITING_FOR_CAPACITY ≠ a_NEVER_FITS := Fld.ne O_a_WAITING_FOR_CAPACITY O_a_NEVER_FITS (by decide)
  have ne_5_6 : a_WAITING_FOR_CAPACITY ≠ a_FITS_NOW := Fld.ne O_a_WAITING_FOR_CAPACITY O_a_FITS_NOW (by decide)
  have ne_6_3 : a_FITS_NOW ≠ a_NO_WORKERS_SEEN := Fld.ne O_a_FITS_NOW O_a_NO_WORKERS_SEEN (by decide)
  have ne_6_4 : a_FITS_NOW ≠ a_NEVER_FITS := Fld.ne O_a_FITS_NOW O_a_NEVER_FITS (by decide)
  have ne_6_5 : a_FITS_NOW ≠ a_WAITING_FOR_CAPACITY := Fld.ne O_a_FITS_NOW O_a_WAITING_FOR_CAPACITY (by decide)
  obtain ⟨r, q, E_r, hkk, hget, hq, he⟩ : ∃ (r : Addr) (q : Int32), Exa s s.heap r "com/example/admit/admit/core/Explanation$Verdict" ∧ (¬ (((x0 &&& 2147483647) % 7) < 0) ∧ ((x0 &&& 2147483647) % 7) < 7) ∧ ([(.ref a_NOT_WAITING), (.ref a_WAITING_FOR_ACTIVATION), (.ref a_WAITING_FOR_TIME), (.ref a_NO_WORKERS_SEEN), (.ref a_NEVER_FITS), (.ref a_WAITING_FOR_CAPACITY), (.ref a_FITS_NOW)] : List Value).getD (((x0 &&& 2147483647) % 7)).toNatClampNeg .null = .ref r ∧ own_waits r a_NO_WORKERS_SEEN a_NEVER_FITS a_WAITING_FOR_CAPACITY a_FITS_NOW = q ∧ own_exp ((x0 &&& 2147483647) % 7) = q := by
    rcases own_k x0 with hk | hk | hk | hk | hk | hk | hk <;> rw [hk]
    · exact ⟨a_NOT_WAITING, 0, E_a_NOT_WAITING, by decide, rfl, by simp [own_waits, ne_0_3, ne_0_4, ne_0_5, ne_0_6], by decide⟩
    · exact ⟨a_WAITING_FOR_ACTIVATION, 0, E_a_WAITING_FOR_ACTIVATION, by decide, rfl, by simp [own_waits, ne_1_3, ne_1_4, ne_1_5, ne_1_6], by decide⟩
    · exact ⟨a_WAITING_FOR_TIME, 0, E_a_WAITING_FOR_TIME, by decide, rfl, by simp [own_waits, ne_2_3, ne_2_4, ne_2_5, ne_2_6], by decide⟩
    · exact ⟨a_NO_WORKERS_SEEN, 1, E_a_NO_WORKERS_SEEN, by decide, rfl, by simp [own_waits, ne_3_4, ne_3_5, ne_3_6], by decide⟩
    · exact ⟨a_NEVER_FITS, 1, E_a_NEVER_FITS, by decide, rfl, by simp [own_waits, ne_4_3, ne_4_5, ne_4_6], by decide⟩
    · exact ⟨a_WAITING_FOR_CAPACITY, 1, E_a_WAITING_FOR_CAPACITY, by decide, rfl, by simp [own_waits, ne_5_3, ne_5_4, ne_5_6], by decide⟩
    · exact ⟨a_FITS_NOW, 1, E_a_FITS_NOW, by decide, rfl, by simp [own_waits, ne_6_3, ne_6_4, ne_6_5], by decide⟩
  obtain ⟨n, o, h1, h2, h3, _, L, rfl, ⟨rfl, N⟩, hq⟩ := rm_0 l s _ hw tables_1 x0 a_NOT_WAITING a_WAITING_FOR_ACTIVATION a_WAITING_FOR_TIME a_NO_WORKERS_SEEN a_NEVER_FITS a_WAITING_FOR_CAPACITY a_FITS_NOW r q s.heap s.heap.size (Nat.le_refl _) S_a_NOT_WAITING S_a_WAITING_FOR_ACTIVATION S_a_WAITING_FOR_TIME S_a_NO_WORKERS_SEEN S_a_NEVER_FITS S_a_WAITING_FOR_CAPACITY S_a_FITS_NOW E_r E_a_NOT_WAITING E_a_WAITING_FOR_ACTIVATION E_a_WAITING_FOR_TIME E_a_NO_WORKERS_SEEN E_a_NEVER_FITS E_a_WAITING_FOR_CAPACITY E_a_FITS_NOW hkk hget hq he p e ha hc hk s m _ below hf ((Spec.applies_iff_loose hf).mp happ).1 ⟨rfl, State.Warmed39.refl s, rfl⟩ trivial
  refine ⟨n, _, h1, h2, h3, hpost _ _ _ _ _ _ ⟨Cond.after_iff.mpr rfl, Cond.after_iff.mpr (eq_i res_at (Term.int_eval (1)) rfl), trivial⟩ ⟨hq.1, hq.2.1, (hq.2.2.sift fun y hy => Or.inr (N y hy)).mono (by decide) (by decide)⟩⟩
theorem main_1_1 : Claimed_1_1 := comes_1 fun _ _ _ _ _ _ h hF => ⟨h.1, hF⟩
theorem main_1_2 : Claimed_1_2 := comes_1 fun _ _ _ _ _ _ h hF => ⟨h.2.1, hF⟩
end Jvm.Pilot.@@N@@
namespace Jvm.Pilot.@@N@@
open Jvm Jvm.ClassFile Sem Op Lib Jvm.Free Jvm.Stand Jvm.Pilot.@@N@@.Jvm.D
/-! MADE BY PROGRAM (witnessworld.py) out of the Statement's table words and the real class files: 13 classes; the members and pool entries that the words name. The judged class is class 1, her method 1. -/
namespace start1
open Jvm.ClassFile
def u (s : String) : CpInfo := .utf8 (stringToUtf16 s)
/-- a pool by its gaps: so many unusable entries, then the entry; so many at the end -/
def gap : Nat → List CpInfo → List CpInfo
  | 0, r => r
  | n + 1, r => .unusable :: gap n r
def poolList (es : List (Nat × CpInfo)) (last : Nat) : List CpInfo := es.foldr (fun e r => gap e.1 (e.2 :: r)) (gap last [])
def pool (es : List (Nat × CpInfo)) (last : Nat) : Array CpInfo := ⟨poolList es last⟩
def fileOf (pool : Array CpInfo) (this : Nat) (attrs : Array Attribute := #[]) (ms : Array MethodInfo := #[]) (fl : Nat := 33) (sup : Nat := 0) (ifs : Array Nat := #[]) (fds : Array FieldInfo := #[]) : ClassFile where
  minorVersion := 0
  majorVersion := 65
  constantPool := pool
  accessFlags := fl
  thisClass := this
  superClass := sup
  interfaces := ifs
  fields := fds
  methods := ms
  attributes := attrs
def plain (name : String) (sup : Option ClassId) : Class where
  name := name
  kind := .ordinary
  loader := none
  accessFlags := 33
  super := sup
  interfaces := #[]
  cf := none
  fields := #[]
  methods := #[]
  instanceTypes := #[]
  staticTypes := #[]
  resolved := #[]
  callSites := []
  init := .initialized
  statics := none
  mirror := none

def pool0 : Array CpInfo := pool [(5, u "<init>"), (0, u "()V"), (1, .class_ 10), (1, u "java/lang/Object")] 113

def k0m0 : Method := { name := "<init>", desc := "()V", sig := { parameters := [], returnType := none }, accessFlags := 1, code := none }
/-- java/lang/Object -/
def k0 : Class := { plain "java/lang/Object" none with
  accessFlags := 33
  interfaces := #[]
  cf := some (fileOf pool0 8 #[] #[{ accessFlags := 1, nameIndex := 5, descriptorIndex := 6, attributes := #[] }] 33 0 #[] #[])
  fields := #[]
  methods := #[k0m0]
  instanceTypes := #[]
  staticTypes := #[]
  resolved := Array.replicate 124 none
  statics := none }

def pool1 : Array CpInfo := pool [(2, .class_ 4), (1, u "java/lang/Object"), (0, u "<init>"), (0, u "()V"), (0, .class_ 8), (0, u "com/example/admit/admit/core/Explanation$Verdict"), (0, .fieldref 7 10), (0, .nameAndType 11 12), (0, u "NOT_WAITING"), (0, u "Lcom/example/admit/admit/core/Explanation$Verdict;"), (0, .fieldref 7 14), (0, .nameAndType 15 12), (0, u "WAITING_FOR_ACTIVATION"), (0, .fieldref 7 17), (0, .nameAndType 18 12), (0, u "WAITING_FOR_TIME"), (0, .fieldref 7 20), (0, .nameAndType 21 12), (0, u "NO_WORKERS_SEEN"), (0, .fieldref 7 23), (0, .nameAndType 24 12), (0, u "NEVER_FITS"), (0, .fieldref 7 26), (0, .nameAndType 27 12), (0, u "WAITING_FOR_CAPACITY"), (0, .fieldref 7 29), (0, .nameAndType 30 12), (0, u "FITS_NOW"), (0, .integer 2147483647), (0, .methodref 7 33), (0, .nameAndType 34 35), (0, u "waitsForAWorker"), (0, u "()Z"), (0, .class_ 37), (0, u "com/example/admit/admit/core/VerdictWaitsForAWorkerPinLaw"), (2, u "law"), (0, u "(I)Z")] 9

def k1m0 : Method := { name := "<init>", desc := "()V", sig := { parameters := [], returnType := none }, accessFlags := 2, code := none }
def k1c1 : Code := { maxStack := 4, maxLocals := 5, code := code, exceptionTable := #[], attributes := #[] }
def k1m1 : Method := { name := "law", desc := "(I)Z", sig := { parameters := [.int], returnType := some .boolean }, accessFlags := 9, code := some k1c1 }
/-- com/example/admit/admit/core/VerdictWaitsForAWorkerPinLaw -/
def k1 : Class := { plain "com/example/admit/admit/core/VerdictWaitsForAWorkerPinLaw" (some 0) with
  accessFlags := 49
  interfaces := #[]
  cf := some (fileOf pool1 36 #[] #[{ accessFlags := 2, nameIndex := 5, descriptorIndex := 6, attributes := #[] }, { accessFlags := 9, nameIndex := 40, descriptorIndex := 41, attributes := #[] }] 49 2 #[] #[])
  fields := #[]
  methods := #[k1m0, k1m1]
  instanceTypes := #[]
  staticTypes := #[]
  resolved := Array.replicate 51 none
  statics := none }

def pool2 : Array CpInfo := pool [(1, .class_ 2), (0, u "java/lang/constant/Constable"), (0, .class_ 4), (0, u "java/lang/Object")] 6

/-- java/lang/constant/Constable -/
def k2 : Class := { plain "java/lang/constant/Constable" (some 0) with
  accessFlags := 1537
  interfaces := #[]
  cf := some (fileOf pool2 1 #[] #[] 1537 3 #[] #[])
  fields := #[]
  methods := #[]
  instanceTypes := #[]
  staticTypes := #[]
  resolved := Array.replicate 11 none
  statics := none }

def pool3 : Array CpInfo := pool [(1, .class_ 2), (0, u "java/lang/Comparable"), (0, .class_ 4), (0, u "java/lang/Object")] 7

/-- java/lang/Comparable -/
def k3 : Class := { plain "java/lang/Comparable" (some 0) with
  accessFlags := 1537
  interfaces := #[]
  cf := some (fileOf pool3 1 #[] #[] 1537 3 #[] #[])
  fields := #[]
  methods := #[]
  instanceTypes := #[]
  staticTypes := #[]
  resolved := Array.replicate 12 none
  statics := none }

def pool4 : Array CpInfo := pool [(1, .class_ 2), (0, u "java/io/Serializable"), (0, .class_ 4), (0, u "java/lang/Object")] 2

/-- java/io/Serializable -/
def k4 : Class := { plain "java/io/Serializable" (some 0) with
  accessFlags := 1537
  interfaces := #[]
  cf := some (fileOf pool4 1 #[] #[] 1537 3 #[] #[])
  fields := #[]
  methods := #[]
  instanceTypes := #[]
  staticTypes := #[]
  resolved := Array.replicate 7 none
  statics := none }

def pool5 : Array CpInfo := pool [(2, .class_ 4), (1, u "java/lang/Enum"), (0, u "name"), (0, u "Ljava/lang/String;"), (2, u "ordinal"), (0, u "I"), (1, .class_ 14), (1, u "java/lang/Object"), (4, u "hash"), (86, .class_ 108), (1, u "java/lang/Enum$EnumDesc"), (2, .class_ 112), (0, u "java/lang/constant/Constable"), (0, .class_ 114), (0, u "java/lang/Comparable"), (0, .class_ 116), (0, u "java/io/Serializable")] 87

/-- java/lang/Enum -/
def k5 : Class := { plain "java/lang/Enum" (some 0) with
  accessFlags := 1057
  interfaces := #[2, 3, 4]
  cf := some (fileOf pool5 2 #[.nestMembers #[106]] #[] 1057 12 #[111, 113, 115] #[{ accessFlags := 18, nameIndex := 5, descriptorIndex := 6, attributes := #[] }, { accessFlags := 18, nameIndex := 9, descriptorIndex := 10, attributes := #[] }, { accessFlags := 2, nameIndex := 19, descriptorIndex := 10, attributes := #[] }])
  fields := #[{ name := "name", type := (.object "java/lang/String"), accessFlags := 18, slot := 0, constantValue := 0 }, { name := "ordinal", type := .int, accessFlags := 18, slot := 1, constantValue := 0 }, { name := "hash", type := .int, accessFlags := 2, slot := 2, constantValue := 0 }]
  methods := #[]
  instanceTypes := #[(.object "java/lang/String"), .int, .int]
  staticTypes := #[]
  resolved := Array.replicate 204 none
  statics := none }

def pool6 : Array CpInfo := pool [(1, .class_ 2), (0, u "com/example/admit/admit/core/Explanation$Verdict"), (2, u "NOT_WAITING"), (0, u "Lcom/example/admit/admit/core/Explanation$Verdict;"), (2, u "WAITING_FOR_ACTIVATION"), (2, u "WAITING_FOR_TIME"), (0, .fieldref 1 14), (0, .nameAndType 15 6), (0, u "NO_WORKERS_SEEN"), (0, .fieldref 1 17), (0, .nameAndType 18 6), (0, u "NEVER_FITS"), (0, .fieldref 1 20), (0, .nameAndType 21 6), (0, u "WAITING_FOR_CAPACITY"), (0, .fieldref 1 23), (0, .nameAndType 24 6), (0, u "FITS_NOW"), (2, u "$VALUES"), (0, u "[Lcom/example/admit/admit/core/Explanation$Verdict;"), (6, .class_ 37), (1, u "java/lang/Enum"), (33, u "waitsForAWorker"), (0, u "()Z"), (6, .class_ 80), (0, u "com/example/admit/admit/core/Explanation")] 2

def k6c0 : Code := { maxStack := 2, maxLocals := 1, code := prog_14_method_5_code, exceptionTable := #[], attributes := #[] }
def k6m0 : Method := { name := "waitsForAWorker", desc := "()Z", sig := { parameters := [], returnType := some .boolean }, accessFlags := 1, code := some k6c0 }
/-- com/example/admit/admit/core/Explanation$Verdict -/
def k6 : Class := { plain "com/example/admit/admit/core/Explanation$Verdict" (some 5) with
  accessFlags := 16433
  interfaces := #[]
  cf := some (fileOf pool6 1 #[.nestHost 79] #[{ accessFlags := 1, nameIndex := 71, descriptorIndex := 72, attributes := #[] }] 16433 35 #[] #[{ accessFlags := 16409, nameIndex := 5, descriptorIndex := 6, attributes := #[] }, { accessFlags := 16409, nameIndex := 9, descriptorIndex := 6, attributes := #[] }, { accessFlags := 16409, nameIndex := 12, descriptorIndex := 6, attributes := #[] }, { accessFlags := 16409, nameIndex := 15, descriptorIndex := 6, attributes := #[] }, { accessFlags := 16409, nameIndex := 18, descriptorIndex := 6, attributes := #[] }, { accessFlags := 16409, nameIndex := 21, descriptorIndex := 6, attributes := #[] }, { accessFlags := 16409, nameIndex := 24, descriptorIndex := 6, attributes := #[] }, { accessFlags := 4122, nameIndex := 27, descriptorIndex := 28, attributes := #[] }])
  fields := #[{ name := "NOT_WAITING", type := (.object "com/example/admit/admit/core/Explanation$Verdict"), accessFlags := 16409, slot := 0, constantValue := 0 }, { name := "WAITING_FOR_ACTIVATION", type := (.object "com/example/admit/admit/core/Explanation$Verdict"), accessFlags := 16409, slot := 1, constantValue := 0 }, { name := "WAITING_FOR_TIME", type := (.object "com/example/admit/admit/core/Explanation$Verdict"), accessFlags := 16409, slot := 2, constantValue := 0 }, { name := "NO_WORKERS_SEEN", type := (.object "com/example/admit/admit/core/Explanation$Verdict"), accessFlags := 16409, slot := 3, constantValue := 0 }, { name := "NEVER_FITS", type := (.object "com/example/admit/admit/core/Explanation$Verdict"), accessFlags := 16409, slot := 4, constantValue := 0 }, { name := "WAITING_FOR_CAPACITY", type := (.object "com/example/admit/admit/core/Explanation$Verdict"), accessFlags := 16409, slot := 5, constantValue := 0 }, { name := "FITS_NOW", type := (.object "com/example/admit/admit/core/Explanation$Verdict"), accessFlags := 16409, slot := 6, constantValue := 0 }, { name := "$VALUES", type := (.array (.object "com/example/admit/admit/core/Explanation$Verdict")), accessFlags := 4122, slot := 7, constantValue := 0 }]
  methods := #[k6m0]
  instanceTypes := #[(.object "java/lang/String"), .int, .int]
  staticTypes := #[(.object "com/example/admit/admit/core/Explanation$Verdict"), (.object "com/example/admit/admit/core/Explanation$Verdict"), (.object "com/example/admit/admit/core/Explanation$Verdict"), (.object "com/example/admit/admit/core/Explanation$Verdict"), (.object "com/example/admit/admit/core/Explanation$Verdict"), (.object "com/example/admit/admit/core/Explanation$Verdict"), (.object "com/example/admit/admit/core/Explanation$Verdict"), (.array (.object "com/example/admit/admit/core/Explanation$Verdict"))]
  resolved := Array.replicate 83 none
  statics := some 0 }

def pool7 : Array CpInfo := pool [(1, u "java/lang/Cloneable"), (0, .class_ 1), (0, u "java/lang/Object"), (0, .class_ 3)] 3

/-- java/lang/Cloneable -/
def k7 : Class := { plain "java/lang/Cloneable" (some 0) with
  accessFlags := 1537
  interfaces := #[]
  cf := some (fileOf pool7 2 #[] #[] 1537 4 #[] #[])
  fields := #[]
  methods := #[]
  instanceTypes := #[]
  staticTypes := #[]
  resolved := Array.replicate 8 none
  statics := none }

/-- the primitive byte -/
def k8 : Class := { plain "byte" none with kind := .primitive 'B', accessFlags := 0x411 }
/-- [B -/
def k9 : Class := { plain "[B" (some 0) with kind := .array 8 .byte, interfaces := #[7, 4], accessFlags := 1041 }

/-- the primitive int -/
def k10 : Class := { plain "int" none with kind := .primitive 'I', accessFlags := 0x411 }
/-- [I -/
def k11 : Class := { plain "[I" (some 0) with kind := .array 10 .int, interfaces := #[7, 4], accessFlags := 1041 }

/-- [Lcom/example/admit/admit/core/Explanation$Verdict; -/
def k12 : Class := { plain "[Lcom/example/admit/admit/core/Explanation$Verdict;" (some 0) with kind := .array 6 (.object "com/example/admit/admit/core/Explanation$Verdict"), interfaces := #[7, 4], accessFlags := 1041 }

def heap : Heap := #[{ cls := 6, slots := #[.ref 1, .ref 2, .ref 3, .ref 4, .ref 5, .ref 6, .ref 7, .null], vm := .statics 6 },
  { cls := 6, slots := #[.null, .int 0, .int 0], vm := .none },
  { cls := 6, slots := #[.null, .int 1, .int 0], vm := .none },
  { cls := 6, slots := #[.null, .int 2, .int 0], vm := .none },
  { cls := 6, slots := #[.null, .int 3, .int 0], vm := .none },
  { cls := 6, slots := #[.null, .int 4, .int 0], vm := .none },
  { cls := 6, slots := #[.null, .int 5, .int 0], vm := .none },
  { cls := 6, slots := #[.null, .int 6, .int 0], vm := .none }]
def classes : Array Class := #[k0, k1, k2, k3, k4, k5, k6, k7, k8, k9, k10, k11, k12]
def interned : List (Array UInt16 × Addr) := []
def slotsUsed : Nat := 29
def theMethod : MethodId := ⟨1, 1⟩
def args0 : Array Value := #[.int 5]
def aboutOver (below : List Frame) : State where
  vm := { classes := classes, interned := interned.toArray }
  heap := heap
  slotsUsed := slotsUsed
  threads := #[{ frames := .invoking theMethod args0 :: below }]
def below0 : List Frame := [.native { method := ⟨0, 0⟩, args := #[] }]
def about1 : State := aboutOver below0
def p0 : Program := .bare "" "" ""
def e0 : Env := launch0.env 0 0 0
theorem w_frames : about1.frames = Frame.invoking theMethod args0 :: below0 := rfl
set_option maxRecDepth 65536 in
theorem w_args : argsFit about1.vm theMethod args0 = true := by decide +kernel
set_option maxRecDepth 65536 in
theorem w_heap : heapFits about1 = true := by decide +kernel
set_option maxRecDepth 65536 in
theorem w_runnable : about1.curStatus? = some .runnable := by decide +kernel
set_option maxRecDepth 65536 in
theorem w_alone : about1.alone = true := by decide +kernel
set_option maxRecDepth 65536 in
theorem w_named : about1.methodNamed? x = some theMethod := by decide +kernel
set_option maxRecDepth 65536 in
theorem w_hears : about1.hears theMethod below0 = true := by decide +kernel
set_option maxRecDepth 65536 in
theorem w_ripe : about1.ripe theMethod args0 below0 = true := by decide +kernel
theorem w_running : about1.status = .running := rfl
set_option maxRecDepth 65536 in
theorem w_room : about1.hasRoom e0.platform room_1 = true :=
  launch0.hasRoom_least _ room_1 (by decide +kernel) (by decide +kernel) (by decide +kernel) (by decide +kernel) (by decide +kernel) (by decide +kernel)
theorem allAtoms_all (ts : List Jvm.Cond) (a : Array Jvm.Value) (st : Jvm.State) : (allAtoms ts).before a st = ts.all (fun c => c.before a st) := by
  induction ts with
  | nil => rfl
  | cons c t ih =>
    show (Jvm.Cond.and c (allAtoms t)).before a st = _
    rw [Jvm.Cond.before_and, ih, List.all_cons]
def words1 : List Jvm.Cond := Jvm.Cond.code x code maxLocals ret :: tables_1
/-- a 'code' word, met by the world's own term for the bytes: nothing is compared byte by byte -/
theorem code_word {y : MethodName} {bytes : ByteArray} {mx : Nat} {rt : Option FieldType} {a : Array Value} {s : State} {m : MethodId} {meth : Method} {c : Code} (h1 : s.methodNamed? y = some m) (h2 : s.vm.method? m = some meth) (h3 : meth.code = some c) (h4 : c.code = bytes)
    (h5 : (c.maxLocals == mx && c.exceptionTable.isEmpty && decide (c.maxStack ≤ mostOperands) && decide (meth.sig.returnType = rt) && !meth.locks && decide (parseMethodDescriptor y.desc = some meth.sig)) = true) : (Jvm.Cond.code y bytes mx rt).before a s = true := by
  simp only [Bool.and_eq_true, beq_iff_eq, Bool.not_eq_true', decide_eq_true_eq] at h5
  obtain ⟨⟨⟨⟨⟨g1, g2⟩, g3⟩, g4⟩, g5⟩, g6⟩ := h5
  simp [Cond.before, Cond.holds, Cond.value, h1, h2, h3, h4, g1, g2, g3, g4, g5, g6]
def isCode : Jvm.Cond → Bool
  | .code _ _ _ _ => true
  | _ => false
theorem all_split {L : List Jvm.Cond} {P : Jvm.Cond → Bool} (h1 : L.all (fun c => isCode c || P c) = true) (h2 : ∀ c ∈ L.filter isCode, P c = true) : L.all P = true := by
  refine List.all_eq_true.mpr fun c hc => ?_
  have h := List.all_eq_true.mp h1 c hc
  rcases Bool.eq_false_or_eq_true (isCode c) with hi | hi
  · exact h2 c (List.mem_filter.mpr ⟨hc, hi⟩)
  · simpa [hi] using h
set_option maxRecDepth 65536 in
theorem w_c0 : (Jvm.Cond.code x code maxLocals ret).before args0 about1 = true := code_word (m := ⟨1, 1⟩) (meth := k1m1) (c := k1c1) (by decide +kernel) rfl rfl rfl (by decide +kernel)
set_option maxRecDepth 65536 in
theorem w_c1 : (Jvm.Cond.code ({ cls := "com/example/admit/admit/core/Explanation$Verdict", name := "waitsForAWorker", desc := "()Z" } : Jvm.MethodName) prog_14_method_5_code (1 : Nat) (Option.some Jvm.ClassFile.FieldType.boolean)).before args0 about1 = true := code_word (m := ⟨6, 0⟩) (meth := k6m0) (c := k6c0) (by decide +kernel) rfl rfl rfl (by decide +kernel)
def codes1 : List Jvm.Cond := [Jvm.Cond.code x code maxLocals ret, Jvm.Cond.code ({ cls := "com/example/admit/admit/core/Explanation$Verdict", name := "waitsForAWorker", desc := "()Z" } : Jvm.MethodName) prog_14_method_5_code (1 : Nat) (Option.some Jvm.ClassFile.FieldType.boolean)]
set_option maxRecDepth 65536 in
theorem codes_eq : words1.filter isCode = codes1 := rfl
theorem w_codes : ∀ c ∈ words1.filter isCode, c.before args0 about1 = true := by
  rw [codes_eq]
  intro c hc
  simp only [codes1, List.mem_cons, List.not_mem_nil, or_false] at hc
  rcases hc with rfl | rfl
  · exact w_c0
  · exact w_c1
set_option maxRecDepth 65536 in
theorem w_t1 : (words1.take 24).all (fun c => isCode c || c.before args0 about1) = true := by decide +kernel
set_option maxRecDepth 65536 in
theorem w_t2 : (words1.drop 24).all (fun c => isCode c || c.before args0 about1) = true := by decide +kernel
theorem w_tables : (allAtoms (Jvm.Cond.code x code maxLocals ret :: tables_1)).before args0 about1 = true := by
  rw [allAtoms_all]
  show words1.all (fun c => c.before args0 about1) = true
  refine all_split ?_ w_codes
  rw [← List.take_append_drop 24 words1, List.all_append, w_t1, w_t2]
  rfl
set_option maxRecDepth 65536 in
theorem w_case : (Jvm.Cond.and given_1 narrow_1).before args0 about1 = true := by decide +kernel
theorem w_applies : (headSpec (Jvm.Cond.code x code maxLocals ret :: tables_1) room_1).applies x e0.platform about1 = true :=
  (Spec.applies_iff w_frames).mpr ⟨w_running, w_runnable, w_alone, w_named, w_hears, w_ripe, w_room, w_tables⟩
theorem atStart : AtStart classFile x code maxLocals ret World_1 tables_1 room_1 Calls_1 rest_1 Pre_1 launch0 p0 e0 about1 theMethod args0 below0 :=
  ⟨lists_1, trivial, launch0.admits_env _ _ _, launch0.least_env, fairChoices_fair.cas, fairChoices_fair.clock, w_frames, w_args, w_heap, w_applies, trivial, trivial, w_case⟩
end start1
theorem witness_1 : WitnessClaimed_1 := ⟨start1.p0, start1.e0, start1.about1, start1.theMethod, start1.args0, start1.below0, start1.atStart⟩
end Jvm.Pilot.@@N@@
