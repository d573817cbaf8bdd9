import JvmDerived
import JvmDerived.Pilot.@@N@@Statement
import JvmDerived.Pilot.@@N@@Code
set_option linter.unusedVariables false
set_option linter.unusedSimpArgs false
namespace Jvm.RoadKit
open Sem ClassFile Op Lib Jvm.Stand Jvm.Free Jvm.LawKit
section New
variable {p : Program} {l : Launch} {e : Env} {R : Room} {s : State} {m : MethodId} {args : Array Value} {below : List Frame} {meth : Method} {c : Code} {T : State} {locs : List Loc} {cells slots : Nat}
theorem retI (X : Stand p l e R s m args below meth c T locs cells slots) (hx : p.tables.exec = Jvm.exec) {pc : Nat} {Ls : Array Slot} {z : Int32} {rest : List Value} (hret : meth.sig.returnType = some .int) (hd : decode c.code pc = .ok (.ireturn, 1)) {fs : List Frame}
    (hl : ∀ (f : JFrame) (acts : List Action), f.method = m → f.locked = none → f.entered = [] → (doReturn e (T.setTop f) acts (some (.int z))).1 = T.setFrames fs) : Steps p.tables e below (T.setTop (mkF m pc Ls (.int z :: rest))) (T.setFrames fs) := by
  have hm' : T.vm.method? m = some meth := X.method'
  have hn : narrow .int (.int z) = .int z := rfl
  show Steps p.tables e below (T.setTop { method := m, pc := pc, locals := Ls, stack := _ :: rest, locked := none }) _
  jvm_step X.here [X.here.top, hx, hd, hm', hret, hn]
  first | (intro acts; rw [hl _ acts rfl rfl rfl]) | rw [hl _ _ rfl rfl rfl]
  exact Steps.refl _
end New
variable {Z : State} {h h' : Heap} {C n d : String} {v w : Value} {ws : List Addr}
theorem own_staKeep (F : Sta Z h C n d v) (K : Keep h h' ws) (q : ∀ x ∈ ws, ∀ c : Cell, h[x]? = some c → c.vm.isStatics = false) : Sta Z h' C n d v := by
  obtain ⟨cf, i, k, f, st, cell, h1, h2, h3, h4, h5, h6, h7⟩ := F
  refine ⟨cf, i, k, f, st, cell, h1, h2, h3, h4, K.2.1 _ _ h5 (fun r => ?_), h6, h7⟩
  rw [q _ r _ h5] at h6; cases h6
theorem own_staNew {n0 : Nat} (F : Sta Z h C n d v) (K : Keep h h' ws) (hn : ∀ x ∈ ws, n0 ≤ x) (hs : ∀ (x : Addr) (c : Cell), h[x]? = some c → c.vm.isStatics = true → x < n0) : Sta Z h' C n d v := by
  obtain ⟨cf, i, k, f, st, cell, h1, h2, h3, h4, h5, h6, h7⟩ := F
  exact ⟨cf, i, k, f, st, cell, h1, h2, h3, h4, K.2.1 _ _ h5 (fun r => absurd (hs _ _ h5 h6) (Nat.not_lt.mpr (hn _ r))), h6, h7⟩
theorem own_fldI {args : Array Value} {s : State} {t : Term} {a : Addr} {C n d : String} {k : Int32} (ht : t.eval args s none [] s = some (.ref a)) (h : (Cond.eq (.field t C n d) (.int k)).value args s none s [] = some true) : Fld s s.heap a C n d (.int k) := Fld.start ((fld_at ht).symm.trans (eqv_i rfl h))
theorem own_fldR {args : Array Value} {s : State} {t u : Term} {a b : Addr} {C n d : String} (ht : t.eval args s none [] s = some (.ref a)) (hu : u.eval args s none [] s = some (.ref b)) (h : (Cond.eq (.field t C n d) u).value args s none s [] = some true) : Fld s s.heap a C n d (.ref b) := by
  obtain ⟨x, y, ex, ey, kx, ky⟩ := cmp_v (Or.inl h)
  have e1 : s.fieldOf? a C n d = some x := by rw [← fld_at ht]; exact ex
  cases hu.symm.trans ey
  have q : x = .ref b := by
    cases x <;> simp [Cond.value, ex, hu] at h ⊢
    exact h
  exact Fld.start (by rw [e1, q])
theorem own_staL {args : Array Value} {s : State} {C n d : String} {k : Int64} (h : (Cond.eq (.static C n d) (.long k)).value args s none s [] = some true) : (Term.static C n d).eval args s none [] s = some (.long k) := eqv_l rfl h
end Jvm.RoadKit
namespace Jvm.Pilot.@@N@@
open Jvm Jvm.ClassFile Sem Op Lib Jvm.Free Jvm.Stand Jvm.LawKit Jvm.RoadKit Bundle Jvm.Pilot.@@N@@.Jvm.D
theorem pd__I_Lcom_example_admit_admit_core_JobState_ : parseMethodDescriptor "(I)Lcom/example/admit/admit/core/JobState;" = some ⟨[.int], some (.object "com/example/admit/admit/core/JobState")⟩ := by decide +kernel
theorem pd___Z : parseMethodDescriptor "()Z" = some ⟨[], some .boolean⟩ := by decide +kernel
theorem pd__I_Z : parseMethodDescriptor "(I)Z" = some ⟨[.int], some .boolean⟩ := by decide +kernel
theorem own_k (x : Int32) : (x &&& 7) = 0 ∨ (x &&& 7) = 1 ∨ (x &&& 7) = 2 ∨ (x &&& 7) = 3 ∨ (x &&& 7) = 4 ∨ (x &&& 7) = 5 ∨ (x &&& 7) = 6 ∨ (x &&& 7) = 7 := by
  have h : (x &&& 7).toInt = x.toInt % 8 := c_mask x 7 3 (by decide) (by decide)
  have e : ((x &&& 7)).toInt = 0 ∨ ((x &&& 7)).toInt = 1 ∨ ((x &&& 7)).toInt = 2 ∨ ((x &&& 7)).toInt = 3 ∨ ((x &&& 7)).toInt = 4 ∨ ((x &&& 7)).toInt = 5 ∨ ((x &&& 7)).toInt = 6 ∨ ((x &&& 7)).toInt = 7 := by omega
  rcases e with e | e | e | e | e | e | e | e
  · exact (Or.inl (Int32.toInt_inj.mp (e.trans (by rfl))))
  · exact (Or.inr (Or.inl (Int32.toInt_inj.mp (e.trans (by rfl)))))
  · exact (Or.inr (Or.inr (Or.inl (Int32.toInt_inj.mp (e.trans (by rfl))))))
  · exact (Or.inr (Or.inr (Or.inr (Or.inl (Int32.toInt_inj.mp (e.trans (by rfl)))))))
  · exact (Or.inr (Or.inr (Or.inr (Or.inr (Or.inl (Int32.toInt_inj.mp (e.trans (by rfl))))))))
  · exact (Or.inr (Or.inr (Or.inr (Or.inr (Or.inr (Or.inl (Int32.toInt_inj.mp (e.trans (by rfl)))))))))
  · exact (Or.inr (Or.inr (Or.inr (Or.inr (Or.inr (Or.inr (Or.inl (Int32.toInt_inj.mp (e.trans (by rfl))))))))))
  · exact (Or.inr (Or.inr (Or.inr (Or.inr (Or.inr (Or.inr (Or.inr (Int32.toInt_inj.mp (e.trans (by rfl))))))))))
def own_pick (k : Int32) (b0 b1 b2 b3 b4 b5 b6 b7 : Addr) : Addr := if k = 0 then b0 else if k = 1 then b1 else if k = 2 then b2 else if k = 3 then b3 else if k = 4 then b4 else if k = 5 then b5 else if k = 6 then b6 else b7
def own_ended (a b5 b6 b7 : Addr) : Int32 := if a = b5 then 1 else if a = b6 then 1 else if a = b7 then 1 else 0
def own_exp (k : Int32) : Int32 := if k = 0 then 0 else if k = 1 then 0 else if k = 2 then 0 else if k = 3 then 0 else if k = 4 then 0 else if k = 5 then 1 else if k = 6 then 1 else 1
theorem d1_0 : decode method_2_code 0 = .ok (.iload_n 0, 1) := by decide +kernel
theorem d1_1 : decode method_2_code 1 = .ok (.ifCond .ne 7, 3) := by decide +kernel
theorem d1_4 : decode method_2_code 4 = .ok (.getstatic 7, 3) := by decide +kernel
theorem d1_7 : decode method_2_code 7 = .ok (.areturn, 1) := by decide +kernel
theorem d1_8 : decode method_2_code 8 = .ok (.iload_n 0, 1) := by decide +kernel
theorem d1_9 : decode method_2_code 9 = .ok (.iconst 1, 1) := by decide +kernel
theorem d1_10 : decode method_2_code 10 = .ok (.if_icmp .ne 7, 3) := by decide +kernel
theorem d1_13 : decode method_2_code 13 = .ok (.getstatic 13, 3) := by decide +kernel
theorem d1_16 : decode method_2_code 16 = .ok (.areturn, 1) := by decide +kernel
theorem d1_17 : decode method_2_code 17 = .ok (.iload_n 0, 1) := by decide +kernel
theorem d1_18 : decode method_2_code 18 = .ok (.iconst 2, 1) := by decide +kernel
theorem d1_19 : decode method_2_code 19 = .ok (.if_icmp .ne 7, 3) := by decide +kernel
theorem d1_22 : decode method_2_code 22 = .ok (.getstatic 16, 3) := by decide +kernel
theorem d1_25 : decode method_2_code 25 = .ok (.areturn, 1) := by decide +kernel
theorem d1_26 : decode method_2_code 26 = .ok (.iload_n 0, 1) := by decide +kernel
theorem d1_27 : decode method_2_code 27 = .ok (.iconst 3, 1) := by decide +kernel
theorem d1_28 : decode method_2_code 28 = .ok (.if_icmp .ne 7, 3) := by decide +kernel
theorem d1_31 : decode method_2_code 31 = .ok (.getstatic 19, 3) := by decide +kernel
theorem d1_34 : decode method_2_code 34 = .ok (.areturn, 1) := by decide +kernel
theorem d1_35 : decode method_2_code 35 = .ok (.iload_n 0, 1) := by decide +kernel
theorem d1_36 : decode method_2_code 36 = .ok (.iconst 4, 1) := by decide +kernel
theorem d1_37 : decode method_2_code 37 = .ok (.if_icmp .ne 7, 3) := by decide +kernel
theorem d1_40 : decode method_2_code 40 = .ok (.getstatic 22, 3) := by decide +kernel
theorem d1_43 : decode method_2_code 43 = .ok (.areturn, 1) := by decide +kernel
theorem d1_44 : decode method_2_code 44 = .ok (.iload_n 0, 1) := by decide +kernel
theorem d1_45 : decode method_2_code 45 = .ok (.iconst 5, 1) := by decide +kernel
theorem d1_46 : decode method_2_code 46 = .ok (.if_icmp .ne 7, 3) := by decide +kernel
theorem d1_49 : decode method_2_code 49 = .ok (.getstatic 25, 3) := by decide +kernel
theorem d1_52 : decode method_2_code 52 = .ok (.areturn, 1) := by decide +kernel
theorem d1_53 : decode method_2_code 53 = .ok (.iload_n 0, 1) := by decide +kernel
theorem d1_54 : decode method_2_code 54 = .ok (.bipush 6, 2) := by decide +kernel
theorem d1_56 : decode method_2_code 56 = .ok (.if_icmp .ne 7, 3) := by decide +kernel
theorem d1_59 : decode method_2_code 59 = .ok (.getstatic 28, 3) := by decide +kernel
theorem d1_62 : decode method_2_code 62 = .ok (.areturn, 1) := by decide +kernel
theorem d1_63 : decode method_2_code 63 = .ok (.getstatic 31, 3) := by decide +kernel
theorem d1_66 : decode method_2_code 66 = .ok (.areturn, 1) := by decide +kernel
theorem ef_1 (m : MethodId) (x0 : Int32) : entryFrame m #[(.int x0)] 1 = mkF m 0 #[.val (.int x0)] [] := by first | (simp [entryFrame, mkF, argsToLocals, Value.category]; done) | rfl
theorem pn_com_example_admit_admit_core_JobStateEndedPinLaw : plainName "com/example/admit/admit/core/JobStateEndedPinLaw" = true := by first | (simp [plainName, overriddenIn]; done) | decide +kernel
def Q_1 (Z : State) (p1 : Int32) (b0 b1 b2 b3 b4 b5 b6 b7 r : Addr) (h0 : Heap) (n0 : Nat) (v : Option Value) (h : Heap) (L : List Loc) : Prop := v = some (.ref r) ∧ Fr n0 L ∧ h = h0
set_option maxRecDepth 65536 in
set_option maxHeartbeats 40000000 in
theorem rm_1 (l : Launch) (Z : State) (a0 : Array Value) (hw : ∀ d ∈ tables_1, d.before a0 Z = true) (ws : List Jvm.Cond) (p1 : Int32) (b0 b1 b2 b3 b4 b5 b6 b7 r : Addr) (h0 : Heap) (n0 : Nat) (Z0 : n0 ≤ h0.size) (S_b0 : Sta Z h0 "com/example/admit/admit/core/JobState" "SCHEDULED" "Lcom/example/admit/admit/core/JobState;" (.ref b0)) (S_b1 : Sta Z h0 "com/example/admit/admit/core/JobState" "AVAILABLE" "Lcom/example/admit/admit/core/JobState;" (.ref b1)) (S_b2 : Sta Z h0 "com/example/admit/admit/core/JobState" "PENDING" "Lcom/example/admit/admit/core/JobState;" (.ref b2)) (S_b3 : Sta Z h0 "com/example/admit/admit/core/JobState" "RETRYABLE" "Lcom/example/admit/admit/core/JobState;" (.ref b3)) (S_b4 : Sta Z h0 "com/example/admit/admit/core/JobState" "ACTIVE" "Lcom/example/admit/admit/core/JobState;" (.ref b4)) (S_b5 : Sta Z h0 "com/example/admit/admit/core/JobState" "COMPLETED" "Lcom/example/admit/admit/core/JobState;" (.ref b5)) (S_b6 : Sta Z h0 "com/example/admit/admit/core/JobState" "DISCARDED" "Lcom/example/admit/admit/core/JobState;" (.ref b6)) (S_b7 : Sta Z h0 "com/example/admit/admit/core/JobState" "CANCELLED" "Lcom/example/admit/admit/core/JobState;" (.ref b7)) (hsp : own_pick p1 b0 b1 b2 b3 b4 b5 b6 b7 = r) :
    MetFree l (⟨"com/example/admit/admit/core/JobStateEndedPinLaw", "pick", "(I)Lcom/example/admit/admit/core/JobState;"⟩ : MethodName) (head1 (Jvm.Cond.code (⟨"com/example/admit/admit/core/JobStateEndedPinLaw", "pick", "(I)Lcom/example/admit/admit/core/JobState;"⟩ : MethodName) method_2_code 1 (some (.object "com/example/admit/admit/core/JobState")) :: ws) ({ frames := 0, cells := 0, slots := 0, locals := 0 } : Room)) (fun a U => a = #[(.int p1)] ∧ Z.Warmed39 U.vm ∧ U.heap = h0) (fun _ _ _ _ _ => True) (fun _ U o U' => ∃ v L, o = .returned v ∧ Q_1 Z p1 b0 b1 b2 b3 b4 b5 b6 b7 r h0 n0 v U'.heap L ∧ FrameEnd U o U' L ({ frames := 0, cells := 0, slots := 0, locals := 0 } : Room).cells ({ frames := 0, cells := 0, slots := 0, locals := 0 } : Room).slots) := by
  refine MetFree.of_bodySF (plainFor_of_name pn_com_example_admit_admit_core_JobStateEndedPinLaw) hisR ?_
  intro p e s m args below meth c s₁ Bd hml0 hP hK
  obtain ⟨rfl, hZ, hh⟩ := hP
  have hx := Bd.exec
  have hby := Bd.bytes
  have hml : c.maxLocals = 1 := hml0
  have hown : s.vm.findClass "com/example/admit/admit/core/JobStateEndedPinLaw" = some m.cls := findClass_of_methodNamed Bd.named
  have hnm := (name_of_methodNamed Bd.named Bd.method).1
  have X0 : Stand p l e ({ frames := 0, cells := 0, slots := 0, locals := 0 } : Room) s m #[(.int p1)] below meth c s₁ [] 0 0 := Stand.of_body Bd
  have e0 : s₁.heap = h0 := by rw [← hh, Bd.state]; rfl
  have N0 := Fr.nil n0
  have pw0 : ∀ t, Steps p.tables e below (s₁.setTop (mkF m 0 #[.val (.int p1)] [])) t → Steps p.tables e below (s₁.setTop (entryFrame m #[(.int p1)] 1)) t := fun t k => castTop (ef_1 m p1) k
  have K0 : Keep h0 h0 [] := Keep.refl h0 []
  have pw1 : ∀ t, Steps p.tables e below (s₁.setTop (mkF m 1 #[.val (.int p1)] [(.int p1)])) t → Steps p.tables e below (s₁.setTop (entryFrame m #[(.int p1)] 1)) t := by
    intro t k
    refine pw0 t ?_
    refine XS.iloadN X0.here hx rfl (hb hby d1_0) rfl ?_
    show Steps p.tables e below (s₁.setTop (mkF m 1 #[.val (.int p1)] [(.int p1)])) _
    exact k
  by_cases hc2 : p1 = (0 : Int32)
  · skip
    obtain ⟨T3, X3, e3, st3⟩ := getS2 X0 hx hZ hown (host := "") (Or.inl (hw _ (List.mem_of_getElem? (i := 4) rfl))) Via.refl e0 S_b0 (g := (mkF m 4 #[.val (.int p1)] [])) rfl (hb hby d1_4)
    obtain ⟨fs, hr, hrun, hended, hW, hsame⟩ := X3.leave (v := some (.ref b0)) (fun h => by rw [Bd.returns] at h; cases h)
    refine ⟨_, _, pw1 _ ?_, hrun, hended, _, _, rfl, ?_, ⟨_, rfl⟩, hW, hsame.mono (by decide) (by decide)⟩
    · skip
      refine XS.ifNo X0.here hx rfl (hb hby d1_1) rfl ((if0 _ _).trans (teq hc2).2) ?_
      show Steps p.tables e below (s₁.setTop (mkF m 4 #[.val (.int p1)] [])) _
      refine st3 _ ?_
      show Steps p.tables e below (T3.setTop (mkF m 7 #[.val (.int p1)] [(.ref b0)])) _
      exact retOut X3 hx Bd.returns rfl (Or.inr (Or.inr (Or.inr (Or.inr ⟨rfl, rfl, rfl⟩)))) (hb hby d1_7) hr
    · show Q_1 Z p1 b0 b1 b2 b3 b4 b5 b6 b7 r h0 n0 _ T3.heap _
      rw [e3]
      exact ⟨by rw [← hsp]; unfold own_pick; rw [if_pos hc2], N0, rfl⟩
  · skip
    have pw4 : ∀ t, Steps p.tables e below (s₁.setTop (mkF m 10 #[.val (.int p1)] [(.int (1 : Int32)), (.int p1)])) t → Steps p.tables e below (s₁.setTop (entryFrame m #[(.int p1)] 1)) t := by
      intro t k
      refine pw1 t ?_
      refine XS.ifYes X0.here hx rfl (pc0 := 1) (pc' := 8) rfl (hb hby d1_1) rfl ((if0 _ _).trans (feq hc2).2) (by decide) (by decide) ?_
      show Steps p.tables e below (s₁.setTop (mkF m 8 #[.val (.int p1)] [])) _
      refine XS.iloadN X0.here hx rfl (hb hby d1_8) rfl ?_
      show Steps p.tables e below (s₁.setTop (mkF m 9 #[.val (.int p1)] [(.int p1)])) _
      refine XS.iconst X0.here hx rfl (hb hby d1_9) ?_
      show Steps p.tables e below (s₁.setTop (mkF m 10 #[.val (.int p1)] [(.int (1 : Int32)), (.int p1)])) _
      exact k
    by_cases hc5 : p1 = (1 : Int32)
    · skip
      obtain ⟨T6, X6, e6, st6⟩ := getS2 X0 hx hZ hown (host := "") (Or.inl (hw _ (List.mem_of_getElem? (i := 27) rfl))) Via.refl e0 S_b1 (g := (mkF m 13 #[.val (.int p1)] [])) rfl (hb hby d1_13)
      obtain ⟨fs, hr, hrun, hended, hW, hsame⟩ := X6.leave (v := some (.ref b1)) (fun h => by rw [Bd.returns] at h; cases h)
      refine ⟨_, _, pw4 _ ?_, hrun, hended, _, _, rfl, ?_, ⟨_, rfl⟩, hW, hsame.mono (by decide) (by decide)⟩
      · skip
        refine XS.icmpNo X0.here hx rfl (hb hby d1_10) rfl (teq hc5).2 ?_
        show Steps p.tables e below (s₁.setTop (mkF m 13 #[.val (.int p1)] [])) _
        refine st6 _ ?_
        show Steps p.tables e below (T6.setTop (mkF m 16 #[.val (.int p1)] [(.ref b1)])) _
        exact retOut X6 hx Bd.returns rfl (Or.inr (Or.inr (Or.inr (Or.inr ⟨rfl, rfl, rfl⟩)))) (hb hby d1_16) hr
      · show Q_1 Z p1 b0 b1 b2 b3 b4 b5 b6 b7 r h0 n0 _ T6.heap _
        rw [e6]
        exact ⟨by rw [← hsp]; unfold own_pick; rw [if_neg hc2, if_pos hc5], N0, rfl⟩
    · skip
      have pw7 : ∀ t, Steps p.tables e below (s₁.setTop (mkF m 19 #[.val (.int p1)] [(.int (2 : Int32)), (.int p1)])) t → Steps p.tables e below (s₁.setTop (entryFrame m #[(.int p1)] 1)) t := by
        intro t k
        refine pw4 t ?_
        refine XS.icmpYes X0.here hx rfl (pc0 := 10) (pc' := 17) rfl (hb hby d1_10) rfl (feq hc5).2 (by decide) (by decide) ?_
        show Steps p.tables e below (s₁.setTop (mkF m 17 #[.val (.int p1)] [])) _
        refine XS.iloadN X0.here hx rfl (hb hby d1_17) rfl ?_
        show Steps p.tables e below (s₁.setTop (mkF m 18 #[.val (.int p1)] [(.int p1)])) _
        refine XS.iconst X0.here hx rfl (hb hby d1_18) ?_
        show Steps p.tables e below (s₁.setTop (mkF m 19 #[.val (.int p1)] [(.int (2 : Int32)), (.int p1)])) _
        exact k
      by_cases hc8 : p1 = (2 : Int32)
      · skip
        obtain ⟨T9, X9, e9, st9⟩ := getS2 X0 hx hZ hown (host := "") (Or.inl (hw _ (List.mem_of_getElem? (i := 25) rfl))) Via.refl e0 S_b2 (g := (mkF m 22 #[.val (.int p1)] [])) rfl (hb hby d1_22)
        obtain ⟨fs, hr, hrun, hended, hW, hsame⟩ := X9.leave (v := some (.ref b2)) (fun h => by rw [Bd.returns] at h; cases h)
        refine ⟨_, _, pw7 _ ?_, hrun, hended, _, _, rfl, ?_, ⟨_, rfl⟩, hW, hsame.mono (by decide) (by decide)⟩
        · skip
          refine XS.icmpNo X0.here hx rfl (hb hby d1_19) rfl (teq hc8).2 ?_
          show Steps p.tables e below (s₁.setTop (mkF m 22 #[.val (.int p1)] [])) _
          refine st9 _ ?_
          show Steps p.tables e below (T9.setTop (mkF m 25 #[.val (.int p1)] [(.ref b2)])) _
          exact retOut X9 hx Bd.returns rfl (Or.inr (Or.inr (Or.inr (Or.inr ⟨rfl, rfl, rfl⟩)))) (hb hby d1_25) hr
        · show Q_1 Z p1 b0 b1 b2 b3 b4 b5 b6 b7 r h0 n0 _ T9.heap _
          rw [e9]
          exact ⟨by rw [← hsp]; unfold own_pick; rw [if_neg hc2, if_neg hc5, if_pos hc8], N0, rfl⟩
      · skip
        have pw10 : ∀ t, Steps p.tables e below (s₁.setTop (mkF m 28 #[.val (.int p1)] [(.int (3 : Int32)), (.int p1)])) t → Steps p.tables e below (s₁.setTop (entryFrame m #[(.int p1)] 1)) t := by
          intro t k
          refine pw7 t ?_
          refine XS.icmpYes X0.here hx rfl (pc0 := 19) (pc' := 26) rfl (hb hby d1_19) rfl (feq hc8).2 (by decide) (by decide) ?_
          show Steps p.tables e below (s₁.setTop (mkF m 26 #[.val (.int p1)] [])) _
          refine XS.iloadN X0.here hx rfl (hb hby d1_26) rfl ?_
          show Steps p.tables e below (s₁.setTop (mkF m 27 #[.val (.int p1)] [(.int p1)])) _
          refine XS.iconst X0.here hx rfl (hb hby d1_27) ?_
          show Steps p.tables e below (s₁.setTop (mkF m 28 #[.val (.int p1)] [(.int (3 : Int32)), (.int p1)])) _
          exact k
        by_cases hc11 : p1 = (3 : Int32)
        · skip
          obtain ⟨T12, X12, e12, st12⟩ := getS2 X0 hx hZ hown (host := "") (Or.inl (hw _ (List.mem_of_getElem? (i := 21) rfl))) Via.refl e0 S_b3 (g := (mkF m 31 #[.val (.int p1)] [])) rfl (hb hby d1_31)
          obtain ⟨fs, hr, hrun, hended, hW, hsame⟩ := X12.leave (v := some (.ref b3)) (fun h => by rw [Bd.returns] at h; cases h)
          refine ⟨_, _, pw10 _ ?_, hrun, hended, _, _, rfl, ?_, ⟨_, rfl⟩, hW, hsame.mono (by decide) (by decide)⟩
          · skip
            refine XS.icmpNo X0.here hx rfl (hb hby d1_28) rfl (teq hc11).2 ?_
            show Steps p.tables e below (s₁.setTop (mkF m 31 #[.val (.int p1)] [])) _
            refine st12 _ ?_
            show Steps p.tables e below (T12.setTop (mkF m 34 #[.val (.int p1)] [(.ref b3)])) _
            exact retOut X12 hx Bd.returns rfl (Or.inr (Or.inr (Or.inr (Or.inr ⟨rfl, rfl, rfl⟩)))) (hb hby d1_34) hr
          · show Q_1 Z p1 b0 b1 b2 b3 b4 b5 b6 b7 r h0 n0 _ T12.heap _
            rw [e12]
            exact ⟨by rw [← hsp]; unfold own_pick; rw [if_neg hc2, if_neg hc5, if_neg hc8, if_pos hc11], N0, rfl⟩
        · skip
          have pw13 : ∀ t, Steps p.tables e below (s₁.setTop (mkF m 37 #[.val (.int p1)] [(.int (4 : Int32)), (.int p1)])) t → Steps p.tables e below (s₁.setTop (entryFrame m #[(.int p1)] 1)) t := by
            intro t k
            refine pw10 t ?_
            refine XS.icmpYes X0.here hx rfl (pc0 := 28) (pc' := 35) rfl (hb hby d1_28) rfl (feq hc11).2 (by decide) (by decide) ?_
            show Steps p.tables e below (s₁.setTop (mkF m 35 #[.val (.int p1)] [])) _
            refine XS.iloadN X0.here hx rfl (hb hby d1_35) rfl ?_
            show Steps p.tables e below (s₁.setTop (mkF m 36 #[.val (.int p1)] [(.int p1)])) _
            refine XS.iconst X0.here hx rfl (hb hby d1_36) ?_
            show Steps p.tables e below (s₁.setTop (mkF m 37 #[.val (.int p1)] [(.int (4 : Int32)), (.int p1)])) _
            exact k
          by_cases hc14 : p1 = (4 : Int32)
          · skip
            obtain ⟨T15, X15, e15, st15⟩ := getS2 X0 hx hZ hown (host := "") (Or.inl (hw _ (List.mem_of_getElem? (i := 29) rfl))) Via.refl e0 S_b4 (g := (mkF m 40 #[.val (.int p1)] [])) rfl (hb hby d1_40)
            obtain ⟨fs, hr, hrun, hended, hW, hsame⟩ := X15.leave (v := some (.ref b4)) (fun h => by rw [Bd.returns] at h; cases h)
            refine ⟨_, _, pw13 _ ?_, hrun, hended, _, _, rfl, ?_, ⟨_, rfl⟩, hW, hsame.mono (by decide) (by decide)⟩
            · skip
              refine XS.icmpNo X0.here hx rfl (hb hby d1_37) rfl (teq hc14).2 ?_
              show Steps p.tables e below (s₁.setTop (mkF m 40 #[.val (.int p1)] [])) _
              refine st15 _ ?_
              show Steps p.tables e below (T15.setTop (mkF m 43 #[.val (.int p1)] [(.ref b4)])) _
              exact retOut X15 hx Bd.returns rfl (Or.inr (Or.inr (Or.inr (Or.inr ⟨rfl, rfl, rfl⟩)))) (hb hby d1_43) hr
            · show Q_1 Z p1 b0 b1 b2 b3 b4 b5 b6 b7 r h0 n0 _ T15.heap _
              rw [e15]
              exact ⟨by rw [← hsp]; unfold own_pick; rw [if_neg hc2, if_neg hc5, if_neg hc8, if_neg hc11, if_pos hc14], N0, rfl⟩
          · skip
            have pw16 : ∀ t, Steps p.tables e below (s₁.setTop (mkF m 46 #[.val (.int p1)] [(.int (5 : Int32)), (.int p1)])) t → Steps p.tables e below (s₁.setTop (entryFrame m #[(.int p1)] 1)) t := by
              intro t k
              refine pw13 t ?_
              refine XS.icmpYes X0.here hx rfl (pc0 := 37) (pc' := 44) rfl (hb hby d1_37) rfl (feq hc14).2 (by decide) (by decide) ?_
              show Steps p.tables e below (s₁.setTop (mkF m 44 #[.val (.int p1)] [])) _
              refine XS.iloadN X0.here hx rfl (hb hby d1_44) rfl ?_
              show Steps p.tables e below (s₁.setTop (mkF m 45 #[.val (.int p1)] [(.int p1)])) _
              refine XS.iconst X0.here hx rfl (hb hby d1_45) ?_
              show Steps p.tables e below (s₁.setTop (mkF m 46 #[.val (.int p1)] [(.int (5 : Int32)), (.int p1)])) _
              exact k
            by_cases hc17 : p1 = (5 : Int32)
            · skip
              obtain ⟨T18, X18, e18, st18⟩ := getS2 X0 hx hZ hown (host := "") (Or.inl (hw _ (List.mem_of_getElem? (i := 31) rfl))) Via.refl e0 S_b5 (g := (mkF m 49 #[.val (.int p1)] [])) rfl (hb hby d1_49)
              obtain ⟨fs, hr, hrun, hended, hW, hsame⟩ := X18.leave (v := some (.ref b5)) (fun h => by rw [Bd.returns] at h; cases h)
              refine ⟨_, _, pw16 _ ?_, hrun, hended, _, _, rfl, ?_, ⟨_, rfl⟩, hW, hsame.mono (by decide) (by decide)⟩
              · skip
                refine XS.icmpNo X0.here hx rfl (hb hby d1_46) rfl (teq hc17).2 ?_
                show Steps p.tables e below (s₁.setTop (mkF m 49 #[.val (.int p1)] [])) _
                refine st18 _ ?_
                show Steps p.tables e below (T18.setTop (mkF m 52 #[.val (.int p1)] [(.ref b5)])) _
                exact retOut X18 hx Bd.returns rfl (Or.inr (Or.inr (Or.inr (Or.inr ⟨rfl, rfl, rfl⟩)))) (hb hby d1_52) hr
              · show Q_1 Z p1 b0 b1 b2 b3 b4 b5 b6 b7 r h0 n0 _ T18.heap _
                rw [e18]
                exact ⟨by rw [← hsp]; unfold own_pick; rw [if_neg hc2, if_neg hc5, if_neg hc8, if_neg hc11, if_neg hc14, if_pos hc17], N0, rfl⟩
            · skip
              have pw19 : ∀ t, Steps p.tables e below (s₁.setTop (mkF m 56 #[.val (.int p1)] [(.int (6 : Int32)), (.int p1)])) t → Steps p.tables e below (s₁.setTop (entryFrame m #[(.int p1)] 1)) t := by
                intro t k
                refine pw16 t ?_
                refine XS.icmpYes X0.here hx rfl (pc0 := 46) (pc' := 53) rfl (hb hby d1_46) rfl (feq hc17).2 (by decide) (by decide) ?_
                show Steps p.tables e below (s₁.setTop (mkF m 53 #[.val (.int p1)] [])) _
                refine XS.iloadN X0.here hx rfl (hb hby d1_53) rfl ?_
                show Steps p.tables e below (s₁.setTop (mkF m 54 #[.val (.int p1)] [(.int p1)])) _
                refine XS.bipush X0.here hx rfl (hb hby d1_54) ?_
                show Steps p.tables e below (s₁.setTop (mkF m 56 #[.val (.int p1)] [(.int (6 : Int32)), (.int p1)])) _
                exact k
              by_cases hc20 : p1 = (6 : Int32)
              · skip
                obtain ⟨T21, X21, e21, st21⟩ := getS2 X0 hx hZ hown (host := "") (Or.inl (hw _ (List.mem_of_getElem? (i := 23) rfl))) Via.refl e0 S_b6 (g := (mkF m 59 #[.val (.int p1)] [])) rfl (hb hby d1_59)
                obtain ⟨fs, hr, hrun, hended, hW, hsame⟩ := X21.leave (v := some (.ref b6)) (fun h => by rw [Bd.returns] at h; cases h)
                refine ⟨_, _, pw19 _ ?_, hrun, hended, _, _, rfl, ?_, ⟨_, rfl⟩, hW, hsame.mono (by decide) (by decide)⟩
                · skip
                  refine XS.icmpNo X0.here hx rfl (hb hby d1_56) rfl (teq hc20).2 ?_
                  show Steps p.tables e below (s₁.setTop (mkF m 59 #[.val (.int p1)] [])) _
                  refine st21 _ ?_
                  show Steps p.tables e below (T21.setTop (mkF m 62 #[.val (.int p1)] [(.ref b6)])) _
                  exact retOut X21 hx Bd.returns rfl (Or.inr (Or.inr (Or.inr (Or.inr ⟨rfl, rfl, rfl⟩)))) (hb hby d1_62) hr
                · show Q_1 Z p1 b0 b1 b2 b3 b4 b5 b6 b7 r h0 n0 _ T21.heap _
                  rw [e21]
                  exact ⟨by rw [← hsp]; unfold own_pick; rw [if_neg hc2, if_neg hc5, if_neg hc8, if_neg hc11, if_neg hc14, if_neg hc17, if_pos hc20], N0, rfl⟩
              · skip
                obtain ⟨T22, X22, e22, st22⟩ := getS2 X0 hx hZ hown (host := "") (Or.inl (hw _ (List.mem_of_getElem? (i := 24) rfl))) Via.refl e0 S_b7 (g := (mkF m 63 #[.val (.int p1)] [])) rfl (hb hby d1_63)
                obtain ⟨fs, hr, hrun, hended, hW, hsame⟩ := X22.leave (v := some (.ref b7)) (fun h => by rw [Bd.returns] at h; cases h)
                refine ⟨_, _, pw19 _ ?_, hrun, hended, _, _, rfl, ?_, ⟨_, rfl⟩, hW, hsame.mono (by decide) (by decide)⟩
                · skip
                  refine XS.icmpYes X0.here hx rfl (pc0 := 56) (pc' := 63) rfl (hb hby d1_56) rfl (feq hc20).2 (by decide) (by decide) ?_
                  show Steps p.tables e below (s₁.setTop (mkF m 63 #[.val (.int p1)] [])) _
                  refine st22 _ ?_
                  show Steps p.tables e below (T22.setTop (mkF m 66 #[.val (.int p1)] [(.ref b7)])) _
                  exact retOut X22 hx Bd.returns rfl (Or.inr (Or.inr (Or.inr (Or.inr ⟨rfl, rfl, rfl⟩)))) (hb hby d1_66) hr
                · show Q_1 Z p1 b0 b1 b2 b3 b4 b5 b6 b7 r h0 n0 _ T22.heap _
                  rw [e22]
                  exact ⟨by rw [← hsp]; unfold own_pick; rw [if_neg hc2, if_neg hc5, if_neg hc8, if_neg hc11, if_neg hc14, if_neg hc17, if_neg hc20], N0, rfl⟩
theorem d2_0 : decode prog_21_method_6_code 0 = .ok (.aload_n 0, 1) := by decide +kernel
theorem d2_1 : decode prog_21_method_6_code 1 = .ok (.getstatic 19, 3) := by decide +kernel
theorem d2_4 : decode prog_21_method_6_code 4 = .ok (.if_acmp .eq 17, 3) := by decide +kernel
theorem d2_7 : decode prog_21_method_6_code 7 = .ok (.aload_n 0, 1) := by decide +kernel
theorem d2_8 : decode prog_21_method_6_code 8 = .ok (.getstatic 22, 3) := by decide +kernel
theorem d2_11 : decode prog_21_method_6_code 11 = .ok (.if_acmp .eq 10, 3) := by decide +kernel
theorem d2_14 : decode prog_21_method_6_code 14 = .ok (.aload_n 0, 1) := by decide +kernel
theorem d2_15 : decode prog_21_method_6_code 15 = .ok (.getstatic 25, 3) := by decide +kernel
theorem d2_18 : decode prog_21_method_6_code 18 = .ok (.if_acmp .ne 7, 3) := by decide +kernel
theorem d2_21 : decode prog_21_method_6_code 21 = .ok (.iconst 1, 1) := by decide +kernel
theorem d2_22 : decode prog_21_method_6_code 22 = .ok (.goto 4, 3) := by decide +kernel
theorem d2_25 : decode prog_21_method_6_code 25 = .ok (.iconst 0, 1) := by decide +kernel
theorem d2_26 : decode prog_21_method_6_code 26 = .ok (.ireturn, 1) := by decide +kernel
theorem ef_2 (m : MethodId) (x0 : Addr) : entryFrame m #[(.ref x0)] 1 = mkF m 0 #[.val (.ref x0)] [] := by first | (simp [entryFrame, mkF, argsToLocals, Value.category]; done) | rfl
theorem pn_com_example_admit_admit_core_JobState : plainName "com/example/admit/admit/core/JobState" = true := by first | (simp [plainName, overriddenIn]; done) | decide +kernel
def Q_2 (Z : State) (a1 : Addr) (b5 b6 b7 : Addr) (r : Int32) (h0 : Heap) (n0 : Nat) (v : Option Value) (h : Heap) (L : List Loc) : Prop := v = some (.int r) ∧ Fr n0 L ∧ h = h0
set_option maxRecDepth 65536 in
set_option maxHeartbeats 40000000 in
theorem rm_2 (l : Launch) (Z : State) (a0 : Array Value) (hw : ∀ d ∈ tables_1, d.before a0 Z = true) (ws : List Jvm.Cond) (a1 : Addr) (b5 b6 b7 : Addr) (r : Int32) (h0 : Heap) (n0 : Nat) (Z0 : n0 ≤ h0.size) (S_b5 : Sta Z h0 "com/example/admit/admit/core/JobState" "COMPLETED" "Lcom/example/admit/admit/core/JobState;" (.ref b5)) (S_b6 : Sta Z h0 "com/example/admit/admit/core/JobState" "DISCARDED" "Lcom/example/admit/admit/core/JobState;" (.ref b6)) (S_b7 : Sta Z h0 "com/example/admit/admit/core/JobState" "CANCELLED" "Lcom/example/admit/admit/core/JobState;" (.ref b7)) (hsp : own_ended a1 b5 b6 b7 = r) :
    MetFree l (⟨"com/example/admit/admit/core/JobState", "ended", "()Z"⟩ : MethodName) (head1 (Jvm.Cond.code (⟨"com/example/admit/admit/core/JobState", "ended", "()Z"⟩ : MethodName) prog_21_method_6_code 1 (some .boolean) :: ws) ({ frames := 0, cells := 0, slots := 0, locals := 0 } : Room)) (fun a U => a = #[(.ref a1)] ∧ Z.Warmed39 U.vm ∧ U.heap = h0) (fun _ _ _ _ _ => True) (fun _ U o U' => ∃ v L, o = .returned v ∧ Q_2 Z a1 b5 b6 b7 r h0 n0 v U'.heap L ∧ FrameEnd U o U' L ({ frames := 0, cells := 0, slots := 0, locals := 0 } : Room).cells ({ frames := 0, cells := 0, slots := 0, locals := 0 } : Room).slots) := by
  refine MetFree.of_bodySF (plainFor_of_name pn_com_example_admit_admit_core_JobState) hisR ?_
  intro p e s m args below meth c s₁ Bd hml0 hP hK
  obtain ⟨rfl, hZ, hh⟩ := hP
  have hx := Bd.exec
  have hby := Bd.bytes
  have hml : c.maxLocals = 1 := hml0
  have hown : s.vm.findClass "com/example/admit/admit/core/JobState" = some m.cls := findClass_of_methodNamed Bd.named
  have hnm := (name_of_methodNamed Bd.named Bd.method).1
  have X0 : Stand p l e ({ frames := 0, cells := 0, slots := 0, locals := 0 } : Room) s m #[(.ref a1)] below meth c s₁ [] 0 0 := Stand.of_body Bd
  have e0 : s₁.heap = h0 := by rw [← hh, Bd.state]; rfl
  have N0 := Fr.nil n0
  have pw0 : ∀ t, Steps p.tables e below (s₁.setTop (mkF m 0 #[.val (.ref a1)] [])) t → Steps p.tables e below (s₁.setTop (entryFrame m #[(.ref a1)] 1)) t := fun t k => castTop (ef_2 m a1) k
  have K0 : Keep h0 h0 [] := Keep.refl h0 []
  obtain ⟨T23, X23, e23, st23⟩ := getS2 X0 hx hZ hown (host := "") (Or.inl (hw _ (List.mem_of_getElem? (i := 12) rfl))) Via.refl e0 S_b5 (g := (mkF m 1 #[.val (.ref a1)] [(.ref a1)])) rfl (hb hby d2_1)
  have pw24 : ∀ t, Steps p.tables e below (T23.setTop (mkF m 4 #[.val (.ref a1)] [(.ref b5), (.ref a1)])) t → Steps p.tables e below (s₁.setTop (entryFrame m #[(.ref a1)] 1)) t := by
    intro t k
    refine pw0 t ?_
    refine XS.aloadN X0.here hx rfl (hb hby d2_0) rfl rfl ?_
    show Steps p.tables e below (s₁.setTop (mkF m 1 #[.val (.ref a1)] [(.ref a1)])) _
    refine st23 _ ?_
    show Steps p.tables e below (T23.setTop (mkF m 4 #[.val (.ref a1)] [(.ref b5), (.ref a1)])) _
    exact k
  by_cases ha25 : a1 = b5
  · skip
    obtain ⟨fs, hr, hrun, hended, hW, hsame⟩ := X23.leave (v := some (.int (1 : Int32))) (fun h => by rw [Bd.returns] at h; cases h)
    refine ⟨_, _, pw24 _ ?_, hrun, hended, _, _, rfl, ?_, ⟨_, rfl⟩, hW, hsame.mono (by decide) (by decide)⟩
    · skip
      refine Jvm.RoadKit.acmp (g := (mkF m 4 #[.val (.ref a1)] [(.ref b5), (.ref a1)])) X23 hx rfl rfl rfl (pc0 := 4) (pc' := 21) (same := true) rfl (hb hby d2_4) rfl (decide_eq_true (congrArg Value.ref ha25)) (by decide) (by decide) ?_
      show Steps p.tables e below (T23.setTop (mkF m 21 #[.val (.ref a1)] [])) _
      refine XS.iconst X23.here hx rfl (hb hby d2_21) ?_
      show Steps p.tables e below (T23.setTop (mkF m 22 #[.val (.ref a1)] [(.int (1 : Int32))])) _
      refine XS.goto X23.here hx rfl (pc0 := 22) (pc' := 26) rfl (hb hby d2_22) (by decide) (by decide) ?_
      show Steps p.tables e below (T23.setTop (mkF m 26 #[.val (.ref a1)] [(.int (1 : Int32))])) _
      exact retN X23 hx (t := .boolean) Bd.returns (by simp) (hb hby d2_26) hr
    · show Q_2 Z a1 b5 b6 b7 r h0 n0 _ T23.heap _
      rw [e23]
      exact ⟨by rw [← hsp]; unfold own_ended; rw [if_pos ha25], N0, rfl⟩
  · skip
    obtain ⟨T26, X26, e26, st26⟩ := getS2 X23 hx hZ hown (host := "") (Or.inl (hw _ (List.mem_of_getElem? (i := 14) rfl))) Via.refl e23 S_b6 (g := (mkF m 8 #[.val (.ref a1)] [(.ref a1)])) rfl (hb hby d2_8)
    have pw27 : ∀ t, Steps p.tables e below (T26.setTop (mkF m 11 #[.val (.ref a1)] [(.ref b6), (.ref a1)])) t → Steps p.tables e below (s₁.setTop (entryFrame m #[(.ref a1)] 1)) t := by
      intro t k
      refine pw24 t ?_
      refine Jvm.RoadKit.acmp (g := (mkF m 4 #[.val (.ref a1)] [(.ref b5), (.ref a1)])) X23 hx rfl rfl rfl (pc0 := 4) (pc' := 7) (same := false) rfl (hb hby d2_4) rfl (decide_eq_false fun q => ha25 (Value.ref.inj q)) (by decide) (by decide) ?_
      show Steps p.tables e below (T23.setTop (mkF m 7 #[.val (.ref a1)] [])) _
      refine XS.aloadN X23.here hx rfl (hb hby d2_7) rfl rfl ?_
      show Steps p.tables e below (T23.setTop (mkF m 8 #[.val (.ref a1)] [(.ref a1)])) _
      refine st26 _ ?_
      show Steps p.tables e below (T26.setTop (mkF m 11 #[.val (.ref a1)] [(.ref b6), (.ref a1)])) _
      exact k
    by_cases ha28 : a1 = b6
    · skip
      obtain ⟨fs, hr, hrun, hended, hW, hsame⟩ := X26.leave (v := some (.int (1 : Int32))) (fun h => by rw [Bd.returns] at h; cases h)
      refine ⟨_, _, pw27 _ ?_, hrun, hended, _, _, rfl, ?_, ⟨_, rfl⟩, hW, hsame.mono (by decide) (by decide)⟩
      · skip
        refine Jvm.RoadKit.acmp (g := (mkF m 11 #[.val (.ref a1)] [(.ref b6), (.ref a1)])) X26 hx rfl rfl rfl (pc0 := 11) (pc' := 21) (same := true) rfl (hb hby d2_11) rfl (decide_eq_true (congrArg Value.ref ha28)) (by decide) (by decide) ?_
        show Steps p.tables e below (T26.setTop (mkF m 21 #[.val (.ref a1)] [])) _
        refine XS.iconst X26.here hx rfl (hb hby d2_21) ?_
        show Steps p.tables e below (T26.setTop (mkF m 22 #[.val (.ref a1)] [(.int (1 : Int32))])) _
        refine XS.goto X26.here hx rfl (pc0 := 22) (pc' := 26) rfl (hb hby d2_22) (by decide) (by decide) ?_
        show Steps p.tables e below (T26.setTop (mkF m 26 #[.val (.ref a1)] [(.int (1 : Int32))])) _
        exact retN X26 hx (t := .boolean) Bd.returns (by simp) (hb hby d2_26) hr
      · show Q_2 Z a1 b5 b6 b7 r h0 n0 _ T26.heap _
        rw [e26]
        exact ⟨by rw [← hsp]; unfold own_ended; rw [if_neg ha25, if_pos ha28], N0, rfl⟩
    · skip
      obtain ⟨T29, X29, e29, st29⟩ := getS2 X26 hx hZ hown (host := "") (Or.inl (hw _ (List.mem_of_getElem? (i := 16) rfl))) Via.refl e26 S_b7 (g := (mkF m 15 #[.val (.ref a1)] [(.ref a1)])) rfl (hb hby d2_15)
      have pw30 : ∀ t, Steps p.tables e below (T29.setTop (mkF m 18 #[.val (.ref a1)] [(.ref b7), (.ref a1)])) t → Steps p.tables e below (s₁.setTop (entryFrame m #[(.ref a1)] 1)) t := by
        intro t k
        refine pw27 t ?_
        refine Jvm.RoadKit.acmp (g := (mkF m 11 #[.val (.ref a1)] [(.ref b6), (.ref a1)])) X26 hx rfl rfl rfl (pc0 := 11) (pc' := 14) (same := false) rfl (hb hby d2_11) rfl (decide_eq_false fun q => ha28 (Value.ref.inj q)) (by decide) (by decide) ?_
        show Steps p.tables e below (T26.setTop (mkF m 14 #[.val (.ref a1)] [])) _
        refine XS.aloadN X26.here hx rfl (hb hby d2_14) rfl rfl ?_
        show Steps p.tables e below (T26.setTop (mkF m 15 #[.val (.ref a1)] [(.ref a1)])) _
        refine st29 _ ?_
        show Steps p.tables e below (T29.setTop (mkF m 18 #[.val (.ref a1)] [(.ref b7), (.ref a1)])) _
        exact k
      by_cases ha31 : a1 = b7
      · skip
        obtain ⟨fs, hr, hrun, hended, hW, hsame⟩ := X29.leave (v := some (.int (1 : Int32))) (fun h => by rw [Bd.returns] at h; cases h)
        refine ⟨_, _, pw30 _ ?_, hrun, hended, _, _, rfl, ?_, ⟨_, rfl⟩, hW, hsame.mono (by decide) (by decide)⟩
        · skip
          refine Jvm.RoadKit.acmp (g := (mkF m 18 #[.val (.ref a1)] [(.ref b7), (.ref a1)])) X29 hx rfl rfl rfl (pc0 := 18) (pc' := 21) (same := true) rfl (hb hby d2_18) rfl (decide_eq_true (congrArg Value.ref ha31)) (by decide) (by decide) ?_
          show Steps p.tables e below (T29.setTop (mkF m 21 #[.val (.ref a1)] [])) _
          refine XS.iconst X29.here hx rfl (hb hby d2_21) ?_
          show Steps p.tables e below (T29.setTop (mkF m 22 #[.val (.ref a1)] [(.int (1 : Int32))])) _
          refine XS.goto X29.here hx rfl (pc0 := 22) (pc' := 26) rfl (hb hby d2_22) (by decide) (by decide) ?_
          show Steps p.tables e below (T29.setTop (mkF m 26 #[.val (.ref a1)] [(.int (1 : Int32))])) _
          exact retN X29 hx (t := .boolean) Bd.returns (by simp) (hb hby d2_26) hr
        · show Q_2 Z a1 b5 b6 b7 r h0 n0 _ T29.heap _
          rw [e29]
          exact ⟨by rw [← hsp]; unfold own_ended; rw [if_neg ha25, if_neg ha28, if_pos ha31], N0, rfl⟩
      · skip
        obtain ⟨fs, hr, hrun, hended, hW, hsame⟩ := X29.leave (v := some (.int (0 : Int32))) (fun h => by rw [Bd.returns] at h; cases h)
        refine ⟨_, _, pw30 _ ?_, hrun, hended, _, _, rfl, ?_, ⟨_, rfl⟩, hW, hsame.mono (by decide) (by decide)⟩
        · skip
          refine Jvm.RoadKit.acmp (g := (mkF m 18 #[.val (.ref a1)] [(.ref b7), (.ref a1)])) X29 hx rfl rfl rfl (pc0 := 18) (pc' := 25) (same := false) rfl (hb hby d2_18) rfl (decide_eq_false fun q => ha31 (Value.ref.inj q)) (by decide) (by decide) ?_
          show Steps p.tables e below (T29.setTop (mkF m 25 #[.val (.ref a1)] [])) _
          refine XS.iconst X29.here hx rfl (hb hby d2_25) ?_
          show Steps p.tables e below (T29.setTop (mkF m 26 #[.val (.ref a1)] [(.int (0 : Int32))])) _
          exact retN X29 hx (t := .boolean) Bd.returns (by simp) (hb hby d2_26) hr
        · show Q_2 Z a1 b5 b6 b7 r h0 n0 _ T29.heap _
          rw [e29]
          exact ⟨by rw [← hsp]; unfold own_ended; rw [if_neg ha25, if_neg ha28, if_neg ha31], N0, rfl⟩
theorem d3_0 : decode method_3_code 0 = .ok (.iload_n 0, 1) := by decide +kernel
theorem d3_1 : decode method_3_code 1 = .ok (.ifCond .ne 5, 3) := by decide +kernel
theorem d3_4 : decode method_3_code 4 = .ok (.iconst 0, 1) := by decide +kernel
theorem d3_5 : decode method_3_code 5 = .ok (.ireturn, 1) := by decide +kernel
theorem d3_6 : decode method_3_code 6 = .ok (.iload_n 0, 1) := by decide +kernel
theorem d3_7 : decode method_3_code 7 = .ok (.iconst 1, 1) := by decide +kernel
theorem d3_8 : decode method_3_code 8 = .ok (.if_icmp .ne 5, 3) := by decide +kernel
theorem d3_11 : decode method_3_code 11 = .ok (.iconst 0, 1) := by decide +kernel
theorem d3_12 : decode method_3_code 12 = .ok (.ireturn, 1) := by decide +kernel
theorem d3_13 : decode method_3_code 13 = .ok (.iload_n 0, 1) := by decide +kernel
theorem d3_14 : decode method_3_code 14 = .ok (.iconst 2, 1) := by decide +kernel
theorem d3_15 : decode method_3_code 15 = .ok (.if_icmp .ne 5, 3) := by decide +kernel
theorem d3_18 : decode method_3_code 18 = .ok (.iconst 0, 1) := by decide +kernel
theorem d3_19 : decode method_3_code 19 = .ok (.ireturn, 1) := by decide +kernel
theorem d3_20 : decode method_3_code 20 = .ok (.iload_n 0, 1) := by decide +kernel
theorem d3_21 : decode method_3_code 21 = .ok (.iconst 3, 1) := by decide +kernel
theorem d3_22 : decode method_3_code 22 = .ok (.if_icmp .ne 5, 3) := by decide +kernel
theorem d3_25 : decode method_3_code 25 = .ok (.iconst 0, 1) := by decide +kernel
theorem d3_26 : decode method_3_code 26 = .ok (.ireturn, 1) := by decide +kernel
theorem d3_27 : decode method_3_code 27 = .ok (.iload_n 0, 1) := by decide +kernel
theorem d3_28 : decode method_3_code 28 = .ok (.iconst 4, 1) := by decide +kernel
theorem d3_29 : decode method_3_code 29 = .ok (.if_icmp .ne 5, 3) := by decide +kernel
theorem d3_32 : decode method_3_code 32 = .ok (.iconst 0, 1) := by decide +kernel
theorem d3_33 : decode method_3_code 33 = .ok (.ireturn, 1) := by decide +kernel
theorem d3_34 : decode method_3_code 34 = .ok (.iload_n 0, 1) := by decide +kernel
theorem d3_35 : decode method_3_code 35 = .ok (.iconst 5, 1) := by decide +kernel
theorem d3_36 : decode method_3_code 36 = .ok (.if_icmp .ne 5, 3) := by decide +kernel
theorem d3_39 : decode method_3_code 39 = .ok (.iconst 1, 1) := by decide +kernel
theorem d3_40 : decode method_3_code 40 = .ok (.ireturn, 1) := by decide +kernel
theorem d3_41 : decode method_3_code 41 = .ok (.iload_n 0, 1) := by decide +kernel
theorem d3_42 : decode method_3_code 42 = .ok (.bipush 6, 2) := by decide +kernel
theorem d3_44 : decode method_3_code 44 = .ok (.if_icmp .ne 5, 3) := by decide +kernel
theorem d3_47 : decode method_3_code 47 = .ok (.iconst 1, 1) := by decide +kernel
theorem d3_48 : decode method_3_code 48 = .ok (.ireturn, 1) := by decide +kernel
theorem d3_49 : decode method_3_code 49 = .ok (.iconst 1, 1) := by decide +kernel
theorem d3_50 : decode method_3_code 50 = .ok (.ireturn, 1) := by decide +kernel
theorem ef_3 (m : MethodId) (x0 : Int32) : entryFrame m #[(.int x0)] 1 = mkF m 0 #[.val (.int x0)] [] := by first | (simp [entryFrame, mkF, argsToLocals, Value.category]; done) | rfl
def Q_3 (Z : State) (p1 : Int32) (r : Int32) (h0 : Heap) (n0 : Nat) (v : Option Value) (h : Heap) (L : List Loc) : Prop := v = some (.int r) ∧ Fr n0 L ∧ h = h0
set_option maxRecDepth 65536 in
set_option maxHeartbeats 40000000 in
theorem rm_3 (l : Launch) (Z : State) (a0 : Array Value) (hw : ∀ d ∈ tables_1, d.before a0 Z = true) (ws : List Jvm.Cond) (p1 : Int32) (r : Int32) (h0 : Heap) (n0 : Nat) (Z0 : n0 ≤ h0.size) (hsp : own_exp p1 = r) :
    MetFree l (⟨"com/example/admit/admit/core/JobStateEndedPinLaw", "expected", "(I)Z"⟩ : MethodName) (head1 (Jvm.Cond.code (⟨"com/example/admit/admit/core/JobStateEndedPinLaw", "expected", "(I)Z"⟩ : MethodName) method_3_code 1 (some .boolean) :: ws) ({ frames := 0, cells := 0, slots := 0, locals := 0 } : Room)) (fun a U => a = #[(.int p1)] ∧ Z.Warmed39 U.vm ∧ U.heap = h0) (fun _ _ _ _ _ => True) (fun _ U o U' => ∃ v L, o = .returned v ∧ Q_3 Z p1 r h0 n0 v U'.heap L ∧ FrameEnd U o U' L ({ frames := 0, cells := 0, slots := 0, locals := 0 } : Room).cells ({ frames := 0, cells := 0, slots := 0, locals := 0 } : Room).slots) := by
  refine MetFree.of_bodySF (plainFor_of_name pn_com_example_admit_admit_core_JobStateEndedPinLaw) hisR ?_
  intro p e s m args below meth c s₁ Bd hml0 hP hK
  obtain ⟨rfl, hZ, hh⟩ := hP
  have hx := Bd.exec
  have hby := Bd.bytes
  have hml : c.maxLocals = 1 := hml0
  have hown : s.vm.findClass "com/example/admit/admit/core/JobStateEndedPinLaw" = some m.cls := findClass_of_methodNamed Bd.named
  have hnm := (name_of_methodNamed Bd.named Bd.method).1
  have X0 : Stand p l e ({ frames := 0, cells := 0, slots := 0, locals := 0 } : Room) s m #[(.int p1)] below meth c s₁ [] 0 0 := Stand.of_body Bd
  have e0 : s₁.heap = h0 := by rw [← hh, Bd.state]; rfl
  have N0 := Fr.nil n0
  have pw0 : ∀ t, Steps p.tables e below (s₁.setTop (mkF m 0 #[.val (.int p1)] [])) t → Steps p.tables e below (s₁.setTop (entryFrame m #[(.int p1)] 1)) t := fun t k => castTop (ef_3 m p1) k
  have K0 : Keep h0 h0 [] := Keep.refl h0 []
  have pw32 : ∀ t, Steps p.tables e below (s₁.setTop (mkF m 1 #[.val (.int p1)] [(.int p1)])) t → Steps p.tables e below (s₁.setTop (entryFrame m #[(.int p1)] 1)) t := by
    intro t k
    refine pw0 t ?_
    refine XS.iloadN X0.here hx rfl (hb hby d3_0) rfl ?_
    show Steps p.tables e below (s₁.setTop (mkF m 1 #[.val (.int p1)] [(.int p1)])) _
    exact k
  by_cases hc33 : p1 = (0 : Int32)
  · skip
    obtain ⟨fs, hr, hrun, hended, hW, hsame⟩ := X0.leave (v := some (.int (0 : Int32))) (fun h => by rw [Bd.returns] at h; cases h)
    refine ⟨_, _, pw32 _ ?_, hrun, hended, _, _, rfl, ?_, ⟨_, rfl⟩, hW, hsame.mono (by decide) (by decide)⟩
    · skip
      refine XS.ifNo X0.here hx rfl (hb hby d3_1) rfl ((if0 _ _).trans (teq hc33).2) ?_
      show Steps p.tables e below (s₁.setTop (mkF m 4 #[.val (.int p1)] [])) _
      refine XS.iconst X0.here hx rfl (hb hby d3_4) ?_
      show Steps p.tables e below (s₁.setTop (mkF m 5 #[.val (.int p1)] [(.int (0 : Int32))])) _
      exact retN X0 hx (t := .boolean) Bd.returns (by simp) (hb hby d3_5) hr
    · show Q_3 Z p1 r h0 n0 _ s₁.heap _
      rw [e0]
      exact ⟨by rw [← hsp]; unfold own_exp; rw [if_pos hc33], N0, rfl⟩
  · skip
    have pw34 : ∀ t, Steps p.tables e below (s₁.setTop (mkF m 8 #[.val (.int p1)] [(.int (1 : Int32)), (.int p1)])) t → Steps p.tables e below (s₁.setTop (entryFrame m #[(.int p1)] 1)) t := by
      intro t k
      refine pw32 t ?_
      refine XS.ifYes X0.here hx rfl (pc0 := 1) (pc' := 6) rfl (hb hby d3_1) rfl ((if0 _ _).trans (feq hc33).2) (by decide) (by decide) ?_
      show Steps p.tables e below (s₁.setTop (mkF m 6 #[.val (.int p1)] [])) _
      refine XS.iloadN X0.here hx rfl (hb hby d3_6) rfl ?_
      show Steps p.tables e below (s₁.setTop (mkF m 7 #[.val (.int p1)] [(.int p1)])) _
      refine XS.iconst X0.here hx rfl (hb hby d3_7) ?_
      show Steps p.tables e below (s₁.setTop (mkF m 8 #[.val (.int p1)] [(.int (1 : Int32)), (.int p1)])) _
      exact k
    by_cases hc35 : p1 = (1 : Int32)
    · skip
      obtain ⟨fs, hr, hrun, hended, hW, hsame⟩ := X0.leave (v := some (.int (0 : Int32))) (fun h => by rw [Bd.returns] at h; cases h)
      refine ⟨_, _, pw34 _ ?_, hrun, hended, _, _, rfl, ?_, ⟨_, rfl⟩, hW, hsame.mono (by decide) (by decide)⟩
      · skip
        refine XS.icmpNo X0.here hx rfl (hb hby d3_8) rfl (teq hc35).2 ?_
        show Steps p.tables e below (s₁.setTop (mkF m 11 #[.val (.int p1)] [])) _
        refine XS.iconst X0.here hx rfl (hb hby d3_11) ?_
        show Steps p.tables e below (s₁.setTop (mkF m 12 #[.val (.int p1)] [(.int (0 : Int32))])) _
        exact retN X0 hx (t := .boolean) Bd.returns (by simp) (hb hby d3_12) hr
      · show Q_3 Z p1 r h0 n0 _ s₁.heap _
        rw [e0]
        exact ⟨by rw [← hsp]; unfold own_exp; rw [if_neg hc33, if_pos hc35], N0, rfl⟩
    · skip
      have pw36 : ∀ t, Steps p.tables e below (s₁.setTop (mkF m 15 #[.val (.int p1)] [(.int (2 : Int32)), (.int p1)])) t → Steps p.tables e below (s₁.setTop (entryFrame m #[(.int p1)] 1)) t := by
        intro t k
        refine pw34 t ?_
        refine XS.icmpYes X0.here hx rfl (pc0 := 8) (pc' := 13) rfl (hb hby d3_8) rfl (feq hc35).2 (by decide) (by decide) ?_
        show Steps p.tables e below (s₁.setTop (mkF m 13 #[.val (.int p1)] [])) _
        refine XS.iloadN X0.here hx rfl (hb hby d3_13) rfl ?_
        show Steps p.tables e below (s₁.setTop (mkF m 14 #[.val (.int p1)] [(.int p1)])) _
        refine XS.iconst X0.here hx rfl (hb hby d3_14) ?_
        show Steps p.tables e below (s₁.setTop (mkF m 15 #[.val (.int p1)] [(.int (2 : Int32)), (.int p1)])) _
        exact k
      by_cases hc37 : p1 = (2 : Int32)
      · skip
        obtain ⟨fs, hr, hrun, hended, hW, hsame⟩ := X0.leave (v := some (.int (0 : Int32))) (fun h => by rw [Bd.returns] at h; cases h)
        refine ⟨_, _, pw36 _ ?_, hrun, hended, _, _, rfl, ?_, ⟨_, rfl⟩, hW, hsame.mono (by decide) (by decide)⟩
        · skip
          refine XS.icmpNo X0.here hx rfl (hb hby d3_15) rfl (teq hc37).2 ?_
          show Steps p.tables e below (s₁.setTop (mkF m 18 #[.val (.int p1)] [])) _
          refine XS.iconst X0.here hx rfl (hb hby d3_18) ?_
          show Steps p.tables e below (s₁.setTop (mkF m 19 #[.val (.int p1)] [(.int (0 : Int32))])) _
          exact retN X0 hx (t := .boolean) Bd.returns (by simp) (hb hby d3_19) hr
        · show Q_3 Z p1 r h0 n0 _ s₁.heap _
          rw [e0]
          exact ⟨by rw [← hsp]; unfold own_exp; rw [if_neg hc33, if_neg hc35, if_pos hc37], N0, rfl⟩
      · skip
        have pw38 : ∀ t, Steps p.tables e below (s₁.setTop (mkF m 22 #[.val (.int p1)] [(.int (3 : Int32)), (.int p1)])) t → Steps p.tables e below (s₁.setTop (entryFrame m #[(.int p1)] 1)) t := by
          intro t k
          refine pw36 t ?_
          refine XS.icmpYes X0.here hx rfl (pc0 := 15) (pc' := 20) rfl (hb hby d3_15) rfl (feq hc37).2 (by decide) (by decide) ?_
          show Steps p.tables e below (s₁.setTop (mkF m 20 #[.val (.int p1)] [])) _
          refine XS.iloadN X0.here hx rfl (hb hby d3_20) rfl ?_
          show Steps p.tables e below (s₁.setTop (mkF m 21 #[.val (.int p1)] [(.int p1)])) _
          refine XS.iconst X0.here hx rfl (hb hby d3_21) ?_
          show Steps p.tables e below (s₁.setTop (mkF m 22 #[.val (.int p1)] [(.int (3 : Int32)), (.int p1)])) _
          exact k
        by_cases hc39 : p1 = (3 : Int32)
        · skip
          obtain ⟨fs, hr, hrun, hended, hW, hsame⟩ := X0.leave (v := some (.int (0 : Int32))) (fun h => by rw [Bd.returns] at h; cases h)
          refine ⟨_, _, pw38 _ ?_, hrun, hended, _, _, rfl, ?_, ⟨_, rfl⟩, hW, hsame.mono (by decide) (by decide)⟩
          · skip
            refine XS.icmpNo X0.here hx rfl (hb hby d3_22) rfl (teq hc39).2 ?_
            show Steps p.tables e below (s₁.setTop (mkF m 25 #[.val (.int p1)] [])) _
            refine XS.iconst X0.here hx rfl (hb hby d3_25) ?_
            show Steps p.tables e below (s₁.setTop (mkF m 26 #[.val (.int p1)] [(.int (0 : Int32))])) _
            exact retN X0 hx (t := .boolean) Bd.returns (by simp) (hb hby d3_26) hr
          · show Q_3 Z p1 r h0 n0 _ s₁.heap _
            rw [e0]
            exact ⟨by rw [← hsp]; unfold own_exp; rw [if_neg hc33, if_neg hc35, if_neg hc37, if_pos hc39], N0, rfl⟩
        · skip
          have pw40 : ∀ t, Steps p.tables e below (s₁.setTop (mkF m 29 #[.val (.int p1)] [(.int (4 : Int32)), (.int p1)])) t → Steps p.tables e below (s₁.setTop (entryFrame m #[(.int p1)] 1)) t := by
            intro t k
            refine pw38 t ?_
            refine XS.icmpYes X0.here hx rfl (pc0 := 22) (pc' := 27) rfl (hb hby d3_22) rfl (feq hc39).2 (by decide) (by decide) ?_
            show Steps p.tables e below (s₁.setTop (mkF m 27 #[.val (.int p1)] [])) _
            refine XS.iloadN X0.here hx rfl (hb hby d3_27) rfl ?_
            show Steps p.tables e below (s₁.setTop (mkF m 28 #[.val (.int p1)] [(.int p1)])) _
            refine XS.iconst X0.here hx rfl (hb hby d3_28) ?_
            show Steps p.tables e below (s₁.setTop (mkF m 29 #[.val (.int p1)] [(.int (4 : Int32)), (.int p1)])) _
            exact k
          by_cases hc41 : p1 = (4 : Int32)
          · skip
            obtain ⟨fs, hr, hrun, hended, hW, hsame⟩ := X0.leave (v := some (.int (0 : Int32))) (fun h => by rw [Bd.returns] at h; cases h)
            refine ⟨_, _, pw40 _ ?_, hrun, hended, _, _, rfl, ?_, ⟨_, rfl⟩, hW, hsame.mono (by decide) (by decide)⟩
            · skip
              refine XS.icmpNo X0.here hx rfl (hb hby d3_29) rfl (teq hc41).2 ?_
              show Steps p.tables e below (s₁.setTop (mkF m 32 #[.val (.int p1)] [])) _
              refine XS.iconst X0.here hx rfl (hb hby d3_32) ?_
              show Steps p.tables e below (s₁.setTop (mkF m 33 #[.val (.int p1)] [(.int (0 : Int32))])) _
              exact retN X0 hx (t := .boolean) Bd.returns (by simp) (hb hby d3_33) hr
            · show Q_3 Z p1 r h0 n0 _ s₁.heap _
              rw [e0]
              exact ⟨by rw [← hsp]; unfold own_exp; rw [if_neg hc33, if_neg hc35, if_neg hc37, if_neg hc39, if_pos hc41], N0, rfl⟩
          · skip
            have pw42 : ∀ t, Steps p.tables e below (s₁.setTop (mkF m 36 #[.val (.int p1)] [(.int (5 : Int32)), (.int p1)])) t → Steps p.tables e below (s₁.setTop (entryFrame m #[(.int p1)] 1)) t := by
              intro t k
              refine pw40 t ?_
              refine XS.icmpYes X0.here hx rfl (pc0 := 29) (pc' := 34) rfl (hb hby d3_29) rfl (feq hc41).2 (by decide) (by decide) ?_
              show Steps p.tables e below (s₁.setTop (mkF m 34 #[.val (.int p1)] [])) _
              refine XS.iloadN X0.here hx rfl (hb hby d3_34) rfl ?_
              show Steps p.tables e below (s₁.setTop (mkF m 35 #[.val (.int p1)] [(.int p1)])) _
              refine XS.iconst X0.here hx rfl (hb hby d3_35) ?_
              show Steps p.tables e below (s₁.setTop (mkF m 36 #[.val (.int p1)] [(.int (5 : Int32)), (.int p1)])) _
              exact k
            by_cases hc43 : p1 = (5 : Int32)
            · skip
              obtain ⟨fs, hr, hrun, hended, hW, hsame⟩ := X0.leave (v := some (.int (1 : Int32))) (fun h => by rw [Bd.returns] at h; cases h)
              refine ⟨_, _, pw42 _ ?_, hrun, hended, _, _, rfl, ?_, ⟨_, rfl⟩, hW, hsame.mono (by decide) (by decide)⟩
              · skip
                refine XS.icmpNo X0.here hx rfl (hb hby d3_36) rfl (teq hc43).2 ?_
                show Steps p.tables e below (s₁.setTop (mkF m 39 #[.val (.int p1)] [])) _
                refine XS.iconst X0.here hx rfl (hb hby d3_39) ?_
                show Steps p.tables e below (s₁.setTop (mkF m 40 #[.val (.int p1)] [(.int (1 : Int32))])) _
                exact retN X0 hx (t := .boolean) Bd.returns (by simp) (hb hby d3_40) hr
              · show Q_3 Z p1 r h0 n0 _ s₁.heap _
                rw [e0]
                exact ⟨by rw [← hsp]; unfold own_exp; rw [if_neg hc33, if_neg hc35, if_neg hc37, if_neg hc39, if_neg hc41, if_pos hc43], N0, rfl⟩
            · skip
              have pw44 : ∀ t, Steps p.tables e below (s₁.setTop (mkF m 44 #[.val (.int p1)] [(.int (6 : Int32)), (.int p1)])) t → Steps p.tables e below (s₁.setTop (entryFrame m #[(.int p1)] 1)) t := by
                intro t k
                refine pw42 t ?_
                refine XS.icmpYes X0.here hx rfl (pc0 := 36) (pc' := 41) rfl (hb hby d3_36) rfl (feq hc43).2 (by decide) (by decide) ?_
                show Steps p.tables e below (s₁.setTop (mkF m 41 #[.val (.int p1)] [])) _
                refine XS.iloadN X0.here hx rfl (hb hby d3_41) rfl ?_
                show Steps p.tables e below (s₁.setTop (mkF m 42 #[.val (.int p1)] [(.int p1)])) _
                refine XS.bipush X0.here hx rfl (hb hby d3_42) ?_
                show Steps p.tables e below (s₁.setTop (mkF m 44 #[.val (.int p1)] [(.int (6 : Int32)), (.int p1)])) _
                exact k
              by_cases hc45 : p1 = (6 : Int32)
              · skip
                obtain ⟨fs, hr, hrun, hended, hW, hsame⟩ := X0.leave (v := some (.int (1 : Int32))) (fun h => by rw [Bd.returns] at h; cases h)
                refine ⟨_, _, pw44 _ ?_, hrun, hended, _, _, rfl, ?_, ⟨_, rfl⟩, hW, hsame.mono (by decide) (by decide)⟩
                · skip
                  refine XS.icmpNo X0.here hx rfl (hb hby d3_44) rfl (teq hc45).2 ?_
                  show Steps p.tables e below (s₁.setTop (mkF m 47 #[.val (.int p1)] [])) _
                  refine XS.iconst X0.here hx rfl (hb hby d3_47) ?_
                  show Steps p.tables e below (s₁.setTop (mkF m 48 #[.val (.int p1)] [(.int (1 : Int32))])) _
                  exact retN X0 hx (t := .boolean) Bd.returns (by simp) (hb hby d3_48) hr
                · show Q_3 Z p1 r h0 n0 _ s₁.heap _
                  rw [e0]
                  exact ⟨by rw [← hsp]; unfold own_exp; rw [if_neg hc33, if_neg hc35, if_neg hc37, if_neg hc39, if_neg hc41, if_neg hc43, if_pos hc45], N0, rfl⟩
              · skip
                obtain ⟨fs, hr, hrun, hended, hW, hsame⟩ := X0.leave (v := some (.int (1 : Int32))) (fun h => by rw [Bd.returns] at h; cases h)
                refine ⟨_, _, pw44 _ ?_, hrun, hended, _, _, rfl, ?_, ⟨_, rfl⟩, hW, hsame.mono (by decide) (by decide)⟩
                · skip
                  refine XS.icmpYes X0.here hx rfl (pc0 := 44) (pc' := 49) rfl (hb hby d3_44) rfl (feq hc45).2 (by decide) (by decide) ?_
                  show Steps p.tables e below (s₁.setTop (mkF m 49 #[.val (.int p1)] [])) _
                  refine XS.iconst X0.here hx rfl (hb hby d3_49) ?_
                  show Steps p.tables e below (s₁.setTop (mkF m 50 #[.val (.int p1)] [(.int (1 : Int32))])) _
                  exact retN X0 hx (t := .boolean) Bd.returns (by simp) (hb hby d3_50) hr
                · show Q_3 Z p1 r h0 n0 _ s₁.heap _
                  rw [e0]
                  exact ⟨by rw [← hsp]; unfold own_exp; rw [if_neg hc33, if_neg hc35, if_neg hc37, if_neg hc39, if_neg hc41, if_neg hc43, if_neg hc45], N0, rfl⟩
theorem ef_0 (m : MethodId) (x0 : Int32) : entryFrame m #[(.int x0)] maxLocals = mkF m 0 #[.val (.int x0), .unset, .unset] [] := by first | (simp [entryFrame, mkF, argsToLocals, Value.category, maxLocals]; done) | rfl
def Q_0 (Z : State) (x0 : Int32) (b0 b1 b2 b3 b4 b5 b6 b7 r : Addr) (q : Int32) (h0 : Heap) (n0 : Nat) (v : Option Value) (h : Heap) (L : List Loc) : Prop := v = some (.int 1) ∧ Fr n0 L
set_option maxRecDepth 65536 in
set_option maxHeartbeats 40000000 in
theorem rm_0 (l : Launch) (Z : State) (a0 : Array Value) (hw : ∀ d ∈ tables_1, d.before a0 Z = true) (ws : List Jvm.Cond) (x0 : Int32) (b0 b1 b2 b3 b4 b5 b6 b7 r : Addr) (q : Int32) (h0 : Heap) (n0 : Nat) (Z0 : n0 ≤ h0.size) (S_b0 : Sta Z h0 "com/example/admit/admit/core/JobState" "SCHEDULED" "Lcom/example/admit/admit/core/JobState;" (.ref b0)) (S_b1 : Sta Z h0 "com/example/admit/admit/core/JobState" "AVAILABLE" "Lcom/example/admit/admit/core/JobState;" (.ref b1)) (S_b2 : Sta Z h0 "com/example/admit/admit/core/JobState" "PENDING" "Lcom/example/admit/admit/core/JobState;" (.ref b2)) (S_b3 : Sta Z h0 "com/example/admit/admit/core/JobState" "RETRYABLE" "Lcom/example/admit/admit/core/JobState;" (.ref b3)) (S_b4 : Sta Z h0 "com/example/admit/admit/core/JobState" "ACTIVE" "Lcom/example/admit/admit/core/JobState;" (.ref b4)) (S_b5 : Sta Z h0 "com/example/admit/admit/core/JobState" "COMPLETED" "Lcom/example/admit/admit/core/JobState;" (.ref b5)) (S_b6 : Sta Z h0 "com/example/admit/admit/core/JobState" "DISCARDED" "Lcom/example/admit/admit/core/JobState;" (.ref b6)) (S_b7 : Sta Z h0 "com/example/admit/admit/core/JobState" "CANCELLED" "Lcom/example/admit/admit/core/JobState;" (.ref b7)) (E_r : Exa Z h0 r "com/example/admit/admit/core/JobState") (hp : own_pick (x0 &&& (7 : Int32)) b0 b1 b2 b3 b4 b5 b6 b7 = r) (hq : own_ended r b5 b6 b7 = q) (he : own_exp (x0 &&& (7 : Int32)) = q) :
    MetFree l x (head1 (Jvm.Cond.code x code maxLocals ret :: ws) room_1) (fun a U => a = #[(.int x0)] ∧ Z.Warmed39 U.vm ∧ U.heap = h0) (fun _ _ _ _ _ => True) (fun _ U o U' => ∃ v L, o = .returned v ∧ Q_0 Z x0 b0 b1 b2 b3 b4 b5 b6 b7 r q h0 n0 v U'.heap L ∧ FrameEnd U o U' L room_1.cells room_1.slots) := by
  refine MetFree.of_bodySF (plainFor_of_name pn_com_example_admit_admit_core_JobStateEndedPinLaw) hisR ?_
  intro p e s m args below meth c s₁ Bd hml0 hP hK
  obtain ⟨rfl, hZ, hh⟩ := hP
  have hx := Bd.exec
  have hby := Bd.bytes
  have hml : c.maxLocals = 3 := hml0
  have hown : s.vm.findClass "com/example/admit/admit/core/JobStateEndedPinLaw" = some m.cls := findClass_of_methodNamed Bd.named
  have hnm := (name_of_methodNamed Bd.named Bd.method).1
  have X0 : Stand p l e room_1 s m #[(.int x0)] below meth c s₁ [] 0 0 := Stand.of_body Bd
  have e0 : s₁.heap = h0 := by rw [← hh, Bd.state]; rfl
  have N0 := Fr.nil n0
  have pw0 : ∀ t, Steps p.tables e below (s₁.setTop (mkF m 0 #[.val (.int x0), .unset, .unset] [])) t → Steps p.tables e below (s₁.setTop (entryFrame m #[(.int x0)] maxLocals)) t := fun t k => castTop (ef_0 m x0) k
  have K0 : Keep h0 h0 [] := Keep.refl h0 []
  obtain ⟨_, _, ⟨T46, L46, k46, n46⟩, -, X46, ⟨Lc46, hQ46, l46, y46, z46⟩, st46⟩ := Jvm.LawKit.callS X0 hx (y := (⟨"com/example/admit/admit/core/JobStateEndedPinLaw", "pick", "(I)Lcom/example/admit/admit/core/JobState;"⟩ : MethodName)) hown (mvT hZ (hw _ (List.mem_of_getElem? (i := 0) rfl))) (mvT hZ (hw _ (List.mem_of_getElem? (i := 1) rfl))) (mvT hZ (hw _ (List.mem_of_getElem? (i := 2) rfl))) (mvT hZ (hw _ (List.mem_of_getElem? (i := 3) rfl))) (by decide) (backOf (W := 0) (rm_1 l Z a0 hw [] (x0 &&& (7 : Int32)) b0 b1 b2 b3 b4 b5 b6 b7 r h0 n0 Z0 S_b0 S_b1 S_b2 S_b3 S_b4 S_b5 S_b6 S_b7 hp) hZ (hw _ (List.mem_of_getElem? (i := 3) rfl)) (hw _ (List.mem_of_getElem? (i := 2) rfl)) (by decide) (by decide)) (g := (mkF m 6 #[.val (.int x0), .val (.int (x0 &&& (7 : Int32))), .unset] [(.int (x0 &&& (7 : Int32)))])) rfl (by rw [hml]; rfl) (argsL := [(.int (x0 &&& (7 : Int32)))]) (rest := []) (lenOf pd__I_Lcom_example_admit_admit_core_JobState_ rfl) rfl (by show 2 * 0 + _ ≤ _; exact Nat.le_of_eq rfl) (hb hby at_6) (fun _ _ => ⟨rfl, e0, (by decide : 0 + 0 ≤ _), (by decide : 0 + 0 ≤ _)⟩)
  dsimp only [Pt.U, Pt.locs, Pt.cells, Pt.slots] at X46 l46 y46 z46 st46 hQ46
  subst l46 y46 z46
  obtain ⟨rfl, N46q, e46q⟩ := hQ46
  have N46 := Fr.app N0 N46q
  obtain ⟨cq47, kq47, q47a, q47b, q47c⟩ := isOf hZ e46q E_r
  obtain ⟨_, _, ⟨T47, L47, k47, n47⟩, -, X47, ⟨Lc47, hQ47, l47, y47, z47⟩, st47⟩ := X46.virtualBack hx (y := (⟨"com/example/admit/admit/core/JobState", "ended", "()Z"⟩ : MethodName)) (z := (⟨"com/example/admit/admit/core/JobState", "ended", "()Z"⟩ : MethodName)) hown (mvT hZ (hw _ (List.mem_of_getElem? (i := 7) rfl))) (mvT hZ (hw _ (List.mem_of_getElem? (i := 8) rfl))) (notFace_of_selects (args := #[]) (mvT hZ (hw _ (List.mem_of_getElem? (i := 10) rfl)))) (mvT hZ (hw _ (List.mem_of_getElem? (i := 10) rfl))) (mvT hZ (hw _ (List.mem_of_getElem? (i := 9) rfl))) (by decide) (backOf (W := 0) (rm_2 l Z a0 hw [] r b5 b6 b7 q h0 n0 Z0 S_b5 S_b6 S_b7 hq) hZ (hw _ (List.mem_of_getElem? (i := 11) rfl)) (hw _ (List.mem_of_getElem? (i := 5) rfl)) (by decide) (by decide)) q47a q47c (g := (mkF m 11 #[.val (.int x0), .val (.int (x0 &&& (7 : Int32))), .val (.ref r)] [(.ref r)])) rfl (by rw [hml]; rfl) (Steps.refl _) (argsL := []) (rest := []) (lenOf pd___Z rfl) rfl (by show 2 * 0 + _ ≤ _; exact Nat.le_of_eq rfl) (hb hby at_11) (fun _ _ => ⟨rfl, e46q, (by decide : 0 + 0 ≤ _), (by decide : 0 + 0 ≤ _)⟩)
  dsimp only [Pt.U, Pt.locs, Pt.cells, Pt.slots] at X47 l47 y47 z47 st47 hQ47
  subst l47 y47 z47
  obtain ⟨rfl, N47q, e47q⟩ := hQ47
  have N47 := Fr.app N46 N47q
  obtain ⟨_, _, ⟨T48, L48, k48, n48⟩, -, X48, ⟨Lc48, hQ48, l48, y48, z48⟩, st48⟩ := Jvm.LawKit.callS X47 hx (y := (⟨"com/example/admit/admit/core/JobStateEndedPinLaw", "expected", "(I)Z"⟩ : MethodName)) hown (mvT hZ (hw _ (List.mem_of_getElem? (i := 18) rfl))) (mvT hZ (hw _ (List.mem_of_getElem? (i := 19) rfl))) (mvT hZ (hw _ (List.mem_of_getElem? (i := 2) rfl))) (mvT hZ (hw _ (List.mem_of_getElem? (i := 20) rfl))) (by decide) (backOf (W := 1) (rm_3 l Z a0 hw [] (x0 &&& (7 : Int32)) q h0 n0 Z0 he) hZ (hw _ (List.mem_of_getElem? (i := 20) rfl)) (hw _ (List.mem_of_getElem? (i := 2) rfl)) (by decide) (by decide)) (g := (mkF m 15 #[.val (.int x0), .val (.int (x0 &&& (7 : Int32))), .val (.ref r)] [(.int (x0 &&& (7 : Int32))), (.int q)])) rfl (by rw [hml]; rfl) (argsL := [(.int (x0 &&& (7 : Int32)))]) (rest := [(.int q)]) (lenOf pd__I_Z rfl) rfl (by show 2 * 0 + _ ≤ _; exact Nat.le_of_eq rfl) (hb hby at_15) (fun _ _ => ⟨rfl, e47q, (by decide : 0 + 0 ≤ _), (by decide : 0 + 0 ≤ _)⟩)
  dsimp only [Pt.U, Pt.locs, Pt.cells, Pt.slots] at X48 l48 y48 z48 st48 hQ48
  subst l48 y48 z48
  obtain ⟨rfl, N48q, e48q⟩ := hQ48
  have N48 := Fr.app N47 N48q
  obtain ⟨fs, hr, hrun, hended, hW, hsame⟩ := X48.leave (v := some (.int (1 : Int32))) (fun h => by rw [Bd.returns] at h; cases h)
  refine ⟨_, _, pw0 _ ?_, hrun, hended, _, _, rfl, ?_, ⟨_, rfl⟩, hW, hsame.mono (by decide) (by decide)⟩
  · skip
    refine XS.iloadN X0.here hx rfl (hb hby at_0) rfl ?_
    show Steps p.tables e below (s₁.setTop (mkF m 1 #[.val (.int x0), .unset, .unset] [(.int x0)])) _
    refine XS.bipush X0.here hx rfl (hb hby at_1) ?_
    show Steps p.tables e below (s₁.setTop (mkF m 3 #[.val (.int x0), .unset, .unset] [(.int (7 : Int32)), (.int x0)])) _
    refine XS.iand X0.here hx rfl (hb hby at_3) rfl ?_
    show Steps p.tables e below (s₁.setTop (mkF m 4 #[.val (.int x0), .unset, .unset] [(.int (x0 &&& (7 : Int32)))])) _
    refine XS.istoreN X0.here hx rfl (hb hby at_4) rfl (l' := #[.val (.int x0), .val (.int (x0 &&& (7 : Int32))), .unset]) rfl ?_
    show Steps p.tables e below (s₁.setTop (mkF m 5 #[.val (.int x0), .val (.int (x0 &&& (7 : Int32))), .unset] [])) _
    refine XS.iloadN X0.here hx rfl (hb hby at_5) rfl ?_
    show Steps p.tables e below (s₁.setTop (mkF m 6 #[.val (.int x0), .val (.int (x0 &&& (7 : Int32))), .unset] [(.int (x0 &&& (7 : Int32)))])) _
    refine st46 _ ?_
    show Steps p.tables e below (T46.setTop (mkF m 9 #[.val (.int x0), .val (.int (x0 &&& (7 : Int32))), .unset] [(.ref r)])) _
    refine XS.astoreN X46.here hx rfl (hb hby at_9) rfl rfl (l' := #[.val (.int x0), .val (.int (x0 &&& (7 : Int32))), .val (.ref r)]) rfl ?_
    show Steps p.tables e below (T46.setTop (mkF m 10 #[.val (.int x0), .val (.int (x0 &&& (7 : Int32))), .val (.ref r)] [])) _
    refine XS.aloadN X46.here hx rfl (hb hby at_10) rfl rfl ?_
    show Steps p.tables e below (T46.setTop (mkF m 11 #[.val (.int x0), .val (.int (x0 &&& (7 : Int32))), .val (.ref r)] [(.ref r)])) _
    refine st47.trans ?_
    show Steps p.tables e below (T47.setTop (mkF m 14 #[.val (.int x0), .val (.int (x0 &&& (7 : Int32))), .val (.ref r)] [(.int q)])) _
    refine XS.iloadN X47.here hx rfl (hb hby at_14) rfl ?_
    show Steps p.tables e below (T47.setTop (mkF m 15 #[.val (.int x0), .val (.int (x0 &&& (7 : Int32))), .val (.ref r)] [(.int (x0 &&& (7 : Int32))), (.int q)])) _
    refine st48 _ ?_
    show Steps p.tables e below (T48.setTop (mkF m 18 #[.val (.int x0), .val (.int (x0 &&& (7 : Int32))), .val (.ref r)] [(.int q), (.int q)])) _
    refine XS.icmpNo X48.here hx rfl (hb hby at_18) rfl (teq (rfl : q = q)).2 ?_
    show Steps p.tables e below (T48.setTop (mkF m 21 #[.val (.int x0), .val (.int (x0 &&& (7 : Int32))), .val (.ref r)] [])) _
    refine XS.iconst X48.here hx rfl (hb hby at_21) ?_
    show Steps p.tables e below (T48.setTop (mkF m 22 #[.val (.int x0), .val (.int (x0 &&& (7 : Int32))), .val (.ref r)] [(.int (1 : Int32))])) _
    refine XS.goto X48.here hx rfl (pc0 := 22) (pc' := 26) rfl (hb hby at_22) (by decide) (by decide) ?_
    show Steps p.tables e below (T48.setTop (mkF m 26 #[.val (.int x0), .val (.int (x0 &&& (7 : Int32))), .val (.ref r)] [(.int (1 : Int32))])) _
    exact retN X48 hx (t := .boolean) Bd.returns (by simp) (hb hby at_26) hr
  · show Q_0 Z x0 b0 b1 b2 b3 b4 b5 b6 b7 r q h0 n0 _ T48.heap _
    rw [e48q]
    exact ⟨rfl, N48⟩
set_option maxRecDepth 65536 in
set_option maxHeartbeats 40000000 in
theorem comes_1 {Post : Tables → Env → Array Value → State → Outcome → State → Prop} (hpost : ∀ tb e args s v u, (limb_1_1.after args s (.returned v) u = true ∧ limb_1_2.after args s (.returned v) u = true ∧ True) → FrameEnd s (.returned v) u (Jvm.fieldLocs frame_1_writes args s ++ Jvm.arrayLocs frame_1_arrays args s ++ Jvm.staticLocs frame_1_statics s) 0 0 → Post tb e args s (.returned v) u) :
    ArmFor flags0 classFile x code maxLocals ret World_1 tables_1 room_1 Calls_1 rest_1 Pre_1 Post := by
  intro l hfl _ _ p e ha hc hk s m args below hf hA hF happ hP
  obtain ⟨hcalls, hrest, hpre⟩ := hP
  obtain ⟨-, -, -, hnamed, -, -, -, hat⟩ := (Spec.applies_iff hf).mp happ
  obtain ⟨hg, hn⟩ := and_e (Cond.before_iff.mp (show (Jvm.Cond.and given_1 narrow_1).before args s = true from hpre))
  obtain ⟨g49, g50⟩ := and_e hg
  obtain ⟨w0, rfl⟩ : ∃ w0 : Value, args = #[w0] := by
    have hs : args.size = 1 := by simpa [Cond.value, given_1] using g49
    obtain ⟨L⟩ := args
    match L, hs with
    | [w0], _ => exact ⟨w0, rfl⟩
  have hw := fun d (hd : d ∈ tables_1) => atoms_spec (ws := Jvm.Cond.code x code maxLocals ret :: tables_1) hat d (List.mem_cons_of_mem _ hd)
  have hfit : Fit s := fun {y c} hc i hi => by
    obtain ⟨ha, rfl⟩ := Array.getElem?_eq_some_iff.mp hc
    have q := List.all_eq_true.mp ((Array.all_eq_true_iff_forall_mem.mp hF) _ (Array.getElem_mem ha)) i (List.mem_range.mpr hi)
    simpa [Array.getElem?_eq_getElem hi] using q
  obtain ⟨x0, ei0⟩ := is_v g50
  obtain rfl : w0 = (.int x0) := Option.some.inj ei0
  obtain ⟨g51, g52⟩ := and_e hn
  obtain ⟨g53, g54⟩ := and_e g52
  obtain ⟨g55, g56⟩ := and_e g54
  obtain ⟨g57, g58⟩ := and_e g56
  obtain ⟨g59, g60⟩ := and_e g58
  obtain ⟨g61, g62⟩ := and_e g60
  obtain ⟨g63, g64⟩ := and_e g62
  obtain ⟨g65, g66⟩ := and_e g64
  obtain ⟨g67, g68⟩ := and_e g66
  obtain ⟨g69, g70⟩ := and_e g68
  obtain ⟨g71, g72⟩ := and_e g70
  obtain ⟨g73, g74⟩ := and_e g72
  obtain ⟨g75, g76⟩ := and_e g74
  obtain ⟨g77, g78⟩ := and_e g76
  obtain ⟨g79, g80⟩ := and_e g78
  obtain ⟨a_SCHEDULED, ev_a_SCHEDULED⟩ := exa_v g51
  have E_a_SCHEDULED : Exa s s.heap a_SCHEDULED "com/example/admit/admit/core/JobState" := Exa.start ev_a_SCHEDULED g51
  have S_a_SCHEDULED : Sta s s.heap "com/example/admit/admit/core/JobState" "SCHEDULED" "Lcom/example/admit/admit/core/JobState;" (.ref a_SCHEDULED) := Sta.start ev_a_SCHEDULED (Or.inr ⟨(hw _ (List.mem_of_getElem? (i := 5) rfl)), (hw _ (List.mem_of_getElem? (i := 6) rfl))⟩)
  obtain ⟨a_COMPLETED, ev_a_COMPLETED⟩ := exa_v g53
  have E_a_COMPLETED : Exa s s.heap a_COMPLETED "com/example/admit/admit/core/JobState" := Exa.start ev_a_COMPLETED g53
  have S_a_COMPLETED : Sta s s.heap "com/example/admit/admit/core/JobState" "COMPLETED" "Lcom/example/admit/admit/core/JobState;" (.ref a_COMPLETED) := Sta.start ev_a_COMPLETED (Or.inr ⟨(hw _ (List.mem_of_getElem? (i := 5) rfl)), (hw _ (List.mem_of_getElem? (i := 13) rfl))⟩)
  obtain ⟨a_DISCARDED, ev_a_DISCARDED⟩ := exa_v g59
  have E_a_DISCARDED : Exa s s.heap a_DISCARDED "com/example/admit/admit/core/JobState" := Exa.start ev_a_DISCARDED g59
  have S_a_DISCARDED : Sta s s.heap "com/example/admit/admit/core/JobState" "DISCARDED" "Lcom/example/admit/admit/core/JobState;" (.ref a_DISCARDED) := Sta.start ev_a_DISCARDED (Or.inr ⟨(hw _ (List.mem_of_getElem? (i := 5) rfl)), (hw _ (List.mem_of_getElem? (i := 15) rfl))⟩)
  obtain ⟨a_CANCELLED, ev_a_CANCELLED⟩ := exa_v g63
  have E_a_CANCELLED : Exa s s.heap a_CANCELLED "com/example/admit/admit/core/JobState" := Exa.start ev_a_CANCELLED g63
  have S_a_CANCELLED : Sta s s.heap "com/example/admit/admit/core/JobState" "CANCELLED" "Lcom/example/admit/admit/core/JobState;" (.ref a_CANCELLED) := Sta.start ev_a_CANCELLED (Or.inr ⟨(hw _ (List.mem_of_getElem? (i := 5) rfl)), (hw _ (List.mem_of_getElem? (i := 17) rfl))⟩)
  obtain ⟨a_RETRYABLE, ev_a_RETRYABLE⟩ := exa_v g67
  have E_a_RETRYABLE : Exa s s.heap a_RETRYABLE "com/example/admit/admit/core/JobState" := Exa.start ev_a_RETRYABLE g67
  have S_a_RETRYABLE : Sta s s.heap "com/example/admit/admit/core/JobState" "RETRYABLE" "Lcom/example/admit/admit/core/JobState;" (.ref a_RETRYABLE) := Sta.start ev_a_RETRYABLE (Or.inr ⟨(hw _ (List.mem_of_getElem? (i := 5) rfl)), (hw _ (List.mem_of_getElem? (i := 22) rfl))⟩)
  obtain ⟨a_PENDING, ev_a_PENDING⟩ := exa_v g71
  have E_a_PENDING : Exa s s.heap a_PENDING "com/example/admit/admit/core/JobState" := Exa.start ev_a_PENDING g71
  have S_a_PENDING : Sta s s.heap "com/example/admit/admit/core/JobState" "PENDING" "Lcom/example/admit/admit/core/JobState;" (.ref a_PENDING) := Sta.start ev_a_PENDING (Or.inr ⟨(hw _ (List.mem_of_getElem? (i := 5) rfl)), (hw _ (List.mem_of_getElem? (i := 26) rfl))⟩)
  obtain ⟨a_AVAILABLE, ev_a_AVAILABLE⟩ := exa_v g75
  have E_a_AVAILABLE : Exa s s.heap a_AVAILABLE "com/example/admit/admit/core/JobState" := Exa.start ev_a_AVAILABLE g75
  have S_a_AVAILABLE : Sta s s.heap "com/example/admit/admit/core/JobState" "AVAILABLE" "Lcom/example/admit/admit/core/JobState;" (.ref a_AVAILABLE) := Sta.start ev_a_AVAILABLE (Or.inr ⟨(hw _ (List.mem_of_getElem? (i := 5) rfl)), (hw _ (List.mem_of_getElem? (i := 28) rfl))⟩)
  obtain ⟨a_ACTIVE, ev_a_ACTIVE⟩ := exa_v g79
  have E_a_ACTIVE : Exa s s.heap a_ACTIVE "com/example/admit/admit/core/JobState" := Exa.start ev_a_ACTIVE g79
  have S_a_ACTIVE : Sta s s.heap "com/example/admit/admit/core/JobState" "ACTIVE" "Lcom/example/admit/admit/core/JobState;" (.ref a_ACTIVE) := Sta.start ev_a_ACTIVE (Or.inr ⟨(hw _ (List.mem_of_getElem? (i := 5) rfl)), (hw _ (List.mem_of_getElem? (i := 30) rfl))⟩)
  have O_a_SCHEDULED : Fld s s.heap a_SCHEDULED "java/lang/Enum" "ordinal" "I" (.int (0 : Int32)) := own_fldI ev_a_SCHEDULED g55
  have O_a_COMPLETED : Fld s s.heap a_COMPLETED "java/lang/Enum" "ordinal" "I" (.int (5 : Int32)) := own_fldI ev_a_COMPLETED g57
  have O_a_DISCARDED : Fld s s.heap a_DISCARDED "java/lang/Enum" "ordinal" "I" (.int (6 : Int32)) := own_fldI ev_a_DISCARDED g61
  have O_a_CANCELLED : Fld s s.heap a_CANCELLED "java/lang/Enum" "ordinal" "I" (.int (7 : Int32)) := own_fldI ev_a_CANCELLED g65
  have O_a_RETRYABLE : Fld s s.heap a_RETRYABLE "java/lang/Enum" "ordinal" "I" (.int (3 : Int32)) := own_fldI ev_a_RETRYABLE g69
  have O_a_PENDING : Fld s s.heap a_PENDING "java/lang/Enum" "ordinal" "I" (.int (2 : Int32)) := own_fldI ev_a_PENDING g73
  have O_a_AVAILABLE : Fld s s.heap a_AVAILABLE "java/lang/Enum" "ordinal" "I" (.int (1 : Int32)) := own_fldI ev_a_AVAILABLE g77
  have O_a_ACTIVE : Fld s s.heap a_ACTIVE "java/lang/Enum" "ordinal" "I" (.int (4 : Int32)) := own_fldI ev_a_ACTIVE g80
  have ne_0_5 : a_SCHEDULED ≠ a_COMPLETED := Fld.ne O_a_SCHEDULED O_a_COMPLETED (by decide)
  have ne_0_6 : a_SCHEDULED ≠ a_DISCARDED := Fld.ne O_a_SCHEDULED O_a_DISCARDED (by decide)
  have ne_0_7 : a_SCHEDULED ≠ a_CANCELLED := Fld.ne O_a_SCHEDULED O_a_CANCELLED (by decide)
  have ne_1_5 : a_AVAILABLE ≠ a_COMPLETED := Fld.ne O_a_AVAILABLE O_a_COMPLETED (by decide)
  have ne_1_6 : a_AVAILABLE ≠ a_DISCARDED := Fld.ne O_a_AVAILABLE O_a_DISCARDED (by decide)
  have ne_1_7 : a_AVAILABLE ≠ a_CANCELLED := Fld.ne O_a_AVAILABLE O_a_CANCELLED (by decide)
  have ne_2_5 : a_PENDING ≠ a_COMPLETED := Fld.ne O_a_PENDING O_a_COMPLETED (by decide)
  have ne_2_6 : a_PENDING ≠ a_DISCARDED := Fld.ne O_a_PENDING O_a_DISCARDED (by decide)
  have ne_2_7 : a_PENDING ≠ a_CANCELLED := Fld.ne O_a_PENDING O_a_CANCELLED (by decide)
  have ne_3_5 : a_RETRYABLE ≠ a_COMPLETED := Fld.ne O_a_RETRYABLE O_a_COMPLETED (by decide)
  have ne_3_6 : a_RETRYABLE ≠ a_DISCARDED := Fld.ne O_a_RETRYABLE O_a_DISCARDED (by decide)
  have ne_3_7 : a_RETRYABLE ≠ a_CANCELLED := Fld.ne O_a_RETRYABLE O_a_CANCELLED (by decide)
  have ne_4_5 : a_ACTIVE ≠ a_COMPLETED := Fld.ne O_a_ACTIVE O_a_COMPLETED (by decide)
  have ne_4_6 : a_ACTIVE ≠ a_DISCARDED := Fld.ne O_a_ACTIVE O_a_DISCARDED (by decide)
  have ne_4_7 : a_ACTIVE ≠ a_CANCELLED := Fld.ne O_a_ACTIVE O_a_CANCELLED (by decide)
  have ne_5_6 : a_COMPLETED ≠ a_DISCARDED := Fld.ne O_a_COMPLETED O_a_DISCARDED (by decide)
  have ne_5_7 : a_COMPLETED ≠ a_CANCELLED := Fld.ne O_a_COMPLETED O_a_CANCELLED (by decide)
  have ne_6_5 : a_DISCARDED ≠ a_COMPLETED := Fld.ne O_a_DISCARDED O_a_COMPLETED (by decide)
  have ne_6_7 : a_DISCARDED ≠ a_CANCELLED := Fld.ne O_a_DISCARDED O_a_CANCELLED (by decide)
  have ne_7_5 : a_CANCELLED ≠ a_COMPLETED := Fld.ne O_a_CANCELLED O_a_COMPLETED (by decide)
  have ne_7_6 : a_CANCELLED ≠ a_DISCARDED := Fld.ne O_a_CANCELLED O_a_DISCARDED (by decide)
  obtain ⟨r, q, E_r, hp, hq, he⟩ : ∃ (r : Addr) (q : Int32), Exa s s.heap r "com/example/admit/admit/core/JobState" ∧ own_pick (x0 &&& 7) a_SCHEDULED a_AVAILABLE a_PENDING a_RETRYABLE a_ACTIVE a_COMPLETED a_DISCARDED a_CANCELLED = r ∧ own_ended r a_COMPLETED a_DISCARDED a_CANCELLED = q ∧ own_exp (x0 &&& 7) = q := by
    rcases own_k x0 with hk | hk | hk | hk | hk | hk | hk | hk <;> rw [hk]
    · exact ⟨a_SCHEDULED, 0, E_a_SCHEDULED, by simp [own_pick], by simp [own_ended, ne_0_5, ne_0_6, ne_0_7], by simp [own_exp]⟩
    · exact ⟨a_AVAILABLE, 0, E_a_AVAILABLE, by simp [own_pick], by simp [own_ended, ne_1_5, ne_1_6, ne_1_7], by simp [own_exp]⟩
    · exact ⟨a_PENDING, 0, E_a_PENDING, by simp [own_pick], by simp [own_ended, ne_2_5, ne_2_6, ne_2_7], by simp [own_exp]⟩
    · exact ⟨a_RETRYABLE, 0, E_a_RETRYABLE, by simp [own_pick], by simp [own_ended, ne_3_5, ne_3_6, ne_3_7], by simp [own_exp]⟩
    · exact ⟨a_ACTIVE, 0, E_a_ACTIVE, by simp [own_pick], by simp [own_ended, ne_4_5, ne_4_6, ne_4_7], by simp [own_exp]⟩
    · exact ⟨a_COMPLETED, 1, E_a_COMPLETED, by simp [own_pick], by simp [own_ended, ne_5_6, ne_5_7], by simp [own_exp]⟩
    · exact ⟨a_DISCARDED, 1, E_a_DISCARDED, by simp [own_pick], by simp [own_ended, ne_6_5, ne_6_7], by simp [own_exp]⟩
    · exact ⟨a_CANCELLED, 1, E_a_CANCELLED, by simp [own_pick], by simp [own_ended, ne_7_5, ne_7_6], by simp [own_exp]⟩
  obtain ⟨n, o, h1, h2, h3, _, L, rfl, ⟨rfl, N⟩, hq⟩ := rm_0 l s _ hw tables_1 x0 a_SCHEDULED a_AVAILABLE a_PENDING a_RETRYABLE a_ACTIVE a_COMPLETED a_DISCARDED a_CANCELLED r q s.heap s.heap.size (Nat.le_refl _) S_a_SCHEDULED S_a_AVAILABLE S_a_PENDING S_a_RETRYABLE S_a_ACTIVE S_a_COMPLETED S_a_DISCARDED S_a_CANCELLED E_r hp hq he p e ha hc hk s m _ below hf ((Spec.applies_iff_loose hf).mp happ).1 ⟨rfl, State.Warmed39.refl s, rfl⟩ trivial
  refine ⟨n, _, h1, h2, h3, hpost _ _ _ _ _ _ ⟨Cond.after_iff.mpr rfl, Cond.after_iff.mpr (eq_i res_at (Term.int_eval (1)) rfl), trivial⟩ ⟨hq.1, hq.2.1, (hq.2.2.sift fun y hy => Or.inr (N y hy)).mono (by decide) (by decide)⟩⟩
theorem main_1_1 : Claimed_1_1 := comes_1 fun _ _ _ _ _ _ h hF => ⟨h.1, hF⟩
theorem main_1_2 : Claimed_1_2 := comes_1 fun _ _ _ _ _ _ h hF => ⟨h.2.1, hF⟩
end Jvm.Pilot.@@N@@
namespace Jvm.Pilot.@@N@@
open Jvm Jvm.ClassFile Sem Op Lib Jvm.Free Jvm.Stand Jvm.Pilot.@@N@@.Jvm.D
/-! MADE BY PROGRAM (witnessworld.py) out of the Statement's table words and the real class files: 12 classes; the members and pool entries that the words name. The judged class is class 1, her method 3. -/
namespace start1
open Jvm.ClassFile
def u (s : String) : CpInfo := .utf8 (stringToUtf16 s)
/-- a pool by its gaps: so many unusable entries, then the entry; so many at the end -/
def gap : Nat → List CpInfo → List CpInfo
  | 0, r => r
  | n + 1, r => .unusable :: gap n r
def poolList (es : List (Nat × CpInfo)) (last : Nat) : List CpInfo := es.foldr (fun e r => gap e.1 (e.2 :: r)) (gap last [])
def pool (es : List (Nat × CpInfo)) (last : Nat) : Array CpInfo := ⟨poolList es last⟩
def fileOf (pool : Array CpInfo) (this : Nat) (attrs : Array Attribute := #[]) (ms : Array MethodInfo := #[]) (fl : Nat := 33) (sup : Nat := 0) (ifs : Array Nat := #[]) (fds : Array FieldInfo := #[]) : ClassFile where
  minorVersion := 0
  majorVersion := 65
  constantPool := pool
  accessFlags := fl
  thisClass := this
  superClass := sup
  interfaces := ifs
  fields := fds
  methods := ms
  attributes := attrs
def plain (name : String) (sup : Option ClassId) : Class where
  name := name
  kind := .ordinary
  loader := none
  accessFlags := 33
  super := sup
  interfaces := #[]
  cf := none
  fields := #[]
  methods := #[]
  instanceTypes := #[]
  staticTypes := #[]
  resolved := #[]
  callSites := []
  init := .initialized
  statics := none
  mirror := none

def pool0 : Array CpInfo := pool [(5, u "<init>"), (0, u "()V"), (1, .class_ 10), (1, u "java/lang/Object")] 113

def k0m0 : Method := { name := "<init>", desc := "()V", sig := { parameters := [], returnType := none }, accessFlags := 1, code := none }
/-- java/lang/Object -/
def k0 : Class := { plain "java/lang/Object" none with
  accessFlags := 33
  interfaces := #[]
  cf := some (fileOf pool0 8 #[] #[{ accessFlags := 1, nameIndex := 5, descriptorIndex := 6, attributes := #[] }] 33 0 #[] #[])
  fields := #[]
  methods := #[k0m0]
  instanceTypes := #[]
  staticTypes := #[]
  resolved := Array.replicate 124 none
  statics := none }

def pool1 : Array CpInfo := pool [(2, .class_ 4), (1, u "java/lang/Object"), (0, u "<init>"), (0, u "()V"), (0, .fieldref 8 9), (0, .class_ 10), (0, .nameAndType 11 12), (0, u "com/example/admit/admit/core/JobState"), (0, u "SCHEDULED"), (0, u "Lcom/example/admit/admit/core/JobState;"), (0, .fieldref 8 14), (0, .nameAndType 15 12), (0, u "AVAILABLE"), (0, .fieldref 8 17), (0, .nameAndType 18 12), (0, u "PENDING"), (0, .fieldref 8 20), (0, .nameAndType 21 12), (0, u "RETRYABLE"), (0, .fieldref 8 23), (0, .nameAndType 24 12), (0, u "ACTIVE"), (0, .fieldref 8 26), (0, .nameAndType 27 12), (0, u "COMPLETED"), (0, .fieldref 8 29), (0, .nameAndType 30 12), (0, u "DISCARDED"), (0, .fieldref 8 32), (0, .nameAndType 33 12), (0, u "CANCELLED"), (0, .methodref 35 36), (0, .class_ 37), (0, .nameAndType 38 39), (0, u "com/example/admit/admit/core/JobStateEndedPinLaw"), (0, u "pick"), (0, u "(I)Lcom/example/admit/admit/core/JobState;"), (0, .methodref 8 41), (0, .nameAndType 42 43), (0, u "ended"), (0, u "()Z"), (0, .methodref 35 45), (0, .nameAndType 46 47), (0, u "expected"), (0, u "(I)Z"), (3, u "law")] 2

def k1m0 : Method := { name := "<init>", desc := "()V", sig := { parameters := [], returnType := none }, accessFlags := 2, code := none }
def k1c1 : Code := { maxStack := 2, maxLocals := 1, code := method_2_code, exceptionTable := #[], attributes := #[] }
def k1m1 : Method := { name := "pick", desc := "(I)Lcom/example/admit/admit/core/JobState;", sig := { parameters := [.int], returnType := some (.object "com/example/admit/admit/core/JobState") }, accessFlags := 10, code := some k1c1 }
def k1c2 : Code := { maxStack := 2, maxLocals := 1, code := method_3_code, exceptionTable := #[], attributes := #[] }
def k1m2 : Method := { name := "expected", desc := "(I)Z", sig := { parameters := [.int], returnType := some .boolean }, accessFlags := 10, code := some k1c2 }
def k1c3 : Code := { maxStack := 2, maxLocals := 3, code := code, exceptionTable := #[], attributes := #[] }
def k1m3 : Method := { name := "law", desc := "(I)Z", sig := { parameters := [.int], returnType := some .boolean }, accessFlags := 9, code := some k1c3 }
/-- com/example/admit/admit/core/JobStateEndedPinLaw -/
def k1 : Class := { plain "com/example/admit/admit/core/JobStateEndedPinLaw" (some 0) with
  accessFlags := 49
  interfaces := #[]
  cf := some (fileOf pool1 35 #[] #[{ accessFlags := 2, nameIndex := 5, descriptorIndex := 6, attributes := #[] }, { accessFlags := 10, nameIndex := 38, descriptorIndex := 39, attributes := #[] }, { accessFlags := 10, nameIndex := 46, descriptorIndex := 47, attributes := #[] }, { accessFlags := 9, nameIndex := 51, descriptorIndex := 47, attributes := #[] }] 49 2 #[] #[])
  fields := #[]
  methods := #[k1m0, k1m1, k1m2, k1m3]
  instanceTypes := #[]
  staticTypes := #[]
  resolved := Array.replicate 54 none
  statics := none }

def pool2 : Array CpInfo := pool [(1, .class_ 2), (0, u "java/lang/constant/Constable"), (0, .class_ 4), (0, u "java/lang/Object")] 6

/-- java/lang/constant/Constable -/
def k2 : Class := { plain "java/lang/constant/Constable" (some 0) with
  accessFlags := 1537
  interfaces := #[]
  cf := some (fileOf pool2 1 #[] #[] 1537 3 #[] #[])
  fields := #[]
  methods := #[]
  instanceTypes := #[]
  staticTypes := #[]
  resolved := Array.replicate 11 none
  statics := none }

def pool3 : Array CpInfo := pool [(1, .class_ 2), (0, u "java/lang/Comparable"), (0, .class_ 4), (0, u "java/lang/Object")] 7

/-- java/lang/Comparable -/
def k3 : Class := { plain "java/lang/Comparable" (some 0) with
  accessFlags := 1537
  interfaces := #[]
  cf := some (fileOf pool3 1 #[] #[] 1537 3 #[] #[])
  fields := #[]
  methods := #[]
  instanceTypes := #[]
  staticTypes := #[]
  resolved := Array.replicate 12 none
  statics := none }

def pool4 : Array CpInfo := pool [(1, .class_ 2), (0, u "java/io/Serializable"), (0, .class_ 4), (0, u "java/lang/Object")] 2

/-- java/io/Serializable -/
def k4 : Class := { plain "java/io/Serializable" (some 0) with
  accessFlags := 1537
  interfaces := #[]
  cf := some (fileOf pool4 1 #[] #[] 1537 3 #[] #[])
  fields := #[]
  methods := #[]
  instanceTypes := #[]
  staticTypes := #[]
  resolved := Array.replicate 7 none
  statics := none }

def pool5 : Array CpInfo := pool [(2, .class_ 4), (1, u "java/lang/Enum"), (0, u "name"), (0, u "Ljava/lang/String;"), (2, u "ordinal"), (0, u "I"), (1, .class_ 14), (1, u "java/lang/Object"), (4, u "hash"), (86, .class_ 108), (1, u "java/lang/Enum$EnumDesc"), (2, .class_ 112), (0, u "java/lang/constant/Constable"), (0, .class_ 114), (0, u "java/lang/Comparable"), (0, .class_ 116), (0, u "java/io/Serializable")] 87

/-- java/lang/Enum -/
def k5 : Class := { plain "java/lang/Enum" (some 0) with
  accessFlags := 1057
  interfaces := #[2, 3, 4]
  cf := some (fileOf pool5 2 #[.nestMembers #[106]] #[] 1057 12 #[111, 113, 115] #[{ accessFlags := 18, nameIndex := 5, descriptorIndex := 6, attributes := #[] }, { accessFlags := 18, nameIndex := 9, descriptorIndex := 10, attributes := #[] }, { accessFlags := 2, nameIndex := 19, descriptorIndex := 10, attributes := #[] }])
  fields := #[{ name := "name", type := (.object "java/lang/String"), accessFlags := 18, slot := 0, constantValue := 0 }, { name := "ordinal", type := .int, accessFlags := 18, slot := 1, constantValue := 0 }, { name := "hash", type := .int, accessFlags := 2, slot := 2, constantValue := 0 }]
  methods := #[]
  instanceTypes := #[(.object "java/lang/String"), .int, .int]
  staticTypes := #[]
  resolved := Array.replicate 204 none
  statics := none }

def pool6 : Array CpInfo := pool [(1, .class_ 2), (0, u "com/example/admit/admit/core/JobState"), (2, u "SCHEDULED"), (0, u "Lcom/example/admit/admit/core/JobState;"), (2, u "AVAILABLE"), (2, u "PENDING"), (2, u "RETRYABLE"), (2, u "ACTIVE"), (0, .fieldref 1 20), (0, .nameAndType 21 6), (0, u "COMPLETED"), (0, .fieldref 1 23), (0, .nameAndType 24 6), (0, u "DISCARDED"), (0, .fieldref 1 26), (0, .nameAndType 27 6), (0, u "CANCELLED"), (2, u "$VALUES"), (0, u "[Lcom/example/admit/admit/core/JobState;"), (6, .class_ 40), (1, u "java/lang/Enum"), (8, u "ended"), (0, u "()Z")] 43

def k6c0 : Code := { maxStack := 2, maxLocals := 1, code := prog_21_method_6_code, exceptionTable := #[], attributes := #[] }
def k6m0 : Method := { name := "ended", desc := "()Z", sig := { parameters := [], returnType := some .boolean }, accessFlags := 1, code := some k6c0 }
/-- com/example/admit/admit/core/JobState -/
def k6 : Class := { plain "com/example/admit/admit/core/JobState" (some 5) with
  accessFlags := 16433
  interfaces := #[]
  cf := some (fileOf pool6 1 #[] #[{ accessFlags := 1, nameIndex := 49, descriptorIndex := 50, attributes := #[] }] 16433 38 #[] #[{ accessFlags := 16409, nameIndex := 5, descriptorIndex := 6, attributes := #[] }, { accessFlags := 16409, nameIndex := 9, descriptorIndex := 6, attributes := #[] }, { accessFlags := 16409, nameIndex := 12, descriptorIndex := 6, attributes := #[] }, { accessFlags := 16409, nameIndex := 15, descriptorIndex := 6, attributes := #[] }, { accessFlags := 16409, nameIndex := 18, descriptorIndex := 6, attributes := #[] }, { accessFlags := 16409, nameIndex := 21, descriptorIndex := 6, attributes := #[] }, { accessFlags := 16409, nameIndex := 24, descriptorIndex := 6, attributes := #[] }, { accessFlags := 16409, nameIndex := 27, descriptorIndex := 6, attributes := #[] }, { accessFlags := 4122, nameIndex := 30, descriptorIndex := 31, attributes := #[] }])
  fields := #[{ name := "SCHEDULED", type := (.object "com/example/admit/admit/core/JobState"), accessFlags := 16409, slot := 0, constantValue := 0 }, { name := "AVAILABLE", type := (.object "com/example/admit/admit/core/JobState"), accessFlags := 16409, slot := 1, constantValue := 0 }, { name := "PENDING", type := (.object "com/example/admit/admit/core/JobState"), accessFlags := 16409, slot := 2, constantValue := 0 }, { name := "RETRYABLE", type := (.object "com/example/admit/admit/core/JobState"), accessFlags := 16409, slot := 3, constantValue := 0 }, { name := "ACTIVE", type := (.object "com/example/admit/admit/core/JobState"), accessFlags := 16409, slot := 4, constantValue := 0 }, { name := "COMPLETED", type := (.object "com/example/admit/admit/core/JobState"), accessFlags := 16409, slot := 5, constantValue := 0 }, { name := "DISCARDED", type := (.object "com/example/admit/admit/core/JobState"), accessFlags := 16409, slot := 6, constantValue := 0 }, { name := "CANCELLED", type := (.object "com/example/admit/admit/core/JobState"), accessFlags := 16409, slot := 7, constantValue := 0 }, { name := "$VALUES", type := (.array (.object "com/example/admit/admit/core/JobState")), accessFlags := 4122, slot := 8, constantValue := 0 }]
  methods := #[k6m0]
  instanceTypes := #[(.object "java/lang/String"), .int, .int]
  staticTypes := #[(.object "com/example/admit/admit/core/JobState"), (.object "com/example/admit/admit/core/JobState"), (.object "com/example/admit/admit/core/JobState"), (.object "com/example/admit/admit/core/JobState"), (.object "com/example/admit/admit/core/JobState"), (.object "com/example/admit/admit/core/JobState"), (.object "com/example/admit/admit/core/JobState"), (.object "com/example/admit/admit/core/JobState"), (.array (.object "com/example/admit/admit/core/JobState"))]
  resolved := Array.replicate 94 none
  statics := some 0 }

def pool7 : Array CpInfo := pool [(1, u "java/lang/Cloneable"), (0, .class_ 1), (0, u "java/lang/Object"), (0, .class_ 3)] 3

/-- java/lang/Cloneable -/
def k7 : Class := { plain "java/lang/Cloneable" (some 0) with
  accessFlags := 1537
  interfaces := #[]
  cf := some (fileOf pool7 2 #[] #[] 1537 4 #[] #[])
  fields := #[]
  methods := #[]
  instanceTypes := #[]
  staticTypes := #[]
  resolved := Array.replicate 8 none
  statics := none }

/-- the primitive byte -/
def k8 : Class := { plain "byte" none with kind := .primitive 'B', accessFlags := 0x411 }
/-- [B -/
def k9 : Class := { plain "[B" (some 0) with kind := .array 8 .byte, interfaces := #[7, 4], accessFlags := 1041 }

/-- the primitive int -/
def k10 : Class := { plain "int" none with kind := .primitive 'I', accessFlags := 0x411 }
/-- [I -/
def k11 : Class := { plain "[I" (some 0) with kind := .array 10 .int, interfaces := #[7, 4], accessFlags := 1041 }

def heap : Heap := #[{ cls := 6, slots := #[.ref 1, .ref 7, .ref 6, .ref 5, .ref 8, .ref 2, .ref 3, .ref 4, .null], vm := .statics 6 },
  { cls := 6, slots := #[.null, .int 0, .int 0], vm := .none },
  { cls := 6, slots := #[.null, .int 5, .int 0], vm := .none },
  { cls := 6, slots := #[.null, .int 6, .int 0], vm := .none },
  { cls := 6, slots := #[.null, .int 7, .int 0], vm := .none },
  { cls := 6, slots := #[.null, .int 3, .int 0], vm := .none },
  { cls := 6, slots := #[.null, .int 2, .int 0], vm := .none },
  { cls := 6, slots := #[.null, .int 1, .int 0], vm := .none },
  { cls := 6, slots := #[.null, .int 4, .int 0], vm := .none }]
def classes : Array Class := #[k0, k1, k2, k3, k4, k5, k6, k7, k8, k9, k10, k11]
def interned : List (Array UInt16 × Addr) := []
def slotsUsed : Nat := 33
def theMethod : MethodId := ⟨1, 3⟩
def args0 : Array Value := #[.int 5]
def aboutOver (below : List Frame) : State where
  vm := { classes := classes, interned := interned.toArray }
  heap := heap
  slotsUsed := slotsUsed
  threads := #[{ frames := .invoking theMethod args0 :: below }]
def below0 : List Frame := [.native { method := ⟨0, 0⟩, args := #[] }]
def about1 : State := aboutOver below0
def p0 : Program := .bare "" "" ""
def e0 : Env := launch0.env 0 0 0
theorem w_frames : about1.frames = Frame.invoking theMethod args0 :: below0 := rfl
set_option maxRecDepth 65536 in
theorem w_args : argsFit about1.vm theMethod args0 = true := by decide +kernel
set_option maxRecDepth 65536 in
theorem w_heap : heapFits about1 = true := by decide +kernel
set_option maxRecDepth 65536 in
theorem w_runnable : about1.curStatus? = some .runnable := by decide +kernel
set_option maxRecDepth 65536 in
theorem w_alone : about1.alone = true := by decide +kernel
set_option maxRecDepth 65536 in
theorem w_named : about1.methodNamed? x = some theMethod := by decide +kernel
set_option maxRecDepth 65536 in
theorem w_hears : about1.hears theMethod below0 = true := by decide +kernel
set_option maxRecDepth 65536 in
theorem w_ripe : about1.ripe theMethod args0 below0 = true := by decide +kernel
theorem w_running : about1.status = .running := rfl
set_option maxRecDepth 65536 in
theorem w_room : about1.hasRoom e0.platform room_1 = true :=
  launch0.hasRoom_least _ room_1 (by decide +kernel) (by decide +kernel) (by decide +kernel) (by decide +kernel) (by decide +kernel) (by decide +kernel)
theorem allAtoms_all (ts : List Jvm.Cond) (a : Array Jvm.Value) (st : Jvm.State) : (allAtoms ts).before a st = ts.all (fun c => c.before a st) := by
  induction ts with
  | nil => rfl
  | cons c t ih =>
    show (Jvm.Cond.and c (allAtoms t)).before a st = _
    rw [Jvm.Cond.before_and, ih, List.all_cons]
def words1 : List Jvm.Cond := Jvm.Cond.code x code maxLocals ret :: tables_1
/-- a 'code' word, met by the world's own term for the bytes: nothing is compared byte by byte -/
theorem code_word {y : MethodName} {bytes : ByteArray} {mx : Nat} {rt : Option FieldType} {a : Array Value} {s : State} {m : MethodId} {meth : Method} {c : Code} (h1 : s.methodNamed? y = some m) (h2 : s.vm.method? m = some meth) (h3 : meth.code = some c) (h4 : c.code = bytes)
    (h5 : (c.maxLocals == mx && c.exceptionTable.isEmpty && decide (c.maxStack ≤ mostOperands) && decide (meth.sig.returnType = rt) && !meth.locks && decide (parseMethodDescriptor y.desc = some meth.sig)) = true) : (Jvm.Cond.code y bytes mx rt).before a s = true := by
  simp only [Bool.and_eq_true, beq_iff_eq, Bool.not_eq_true', decide_eq_true_eq] at h5
  obtain ⟨⟨⟨⟨⟨g1, g2⟩, g3⟩, g4⟩, g5⟩, g6⟩ := h5
  simp [Cond.before, Cond.holds, Cond.value, h1, h2, h3, h4, g1, g2, g3, g4, g5, g6]
def isCode : Jvm.Cond → Bool
  | .code _ _ _ _ => true
  | _ => false
theorem all_split {L : List Jvm.Cond} {P : Jvm.Cond → Bool} (h1 : L.all (fun c => isCode c || P c) = true) (h2 : ∀ c ∈ L.filter isCode, P c = true) : L.all P = true := by
  refine List.all_eq_true.mpr fun c hc => ?_
  have h := List.all_eq_true.mp h1 c hc
  rcases Bool.eq_false_or_eq_true (isCode c) with hi | hi
  · exact h2 c (List.mem_filter.mpr ⟨hc, hi⟩)
  · simpa [hi] using h
set_option maxRecDepth 65536 in
theorem w_c0 : (Jvm.Cond.code x code maxLocals ret).before args0 about1 = true := code_word (m := ⟨1, 3⟩) (meth := k1m3) (c := k1c3) (by decide +kernel) rfl rfl rfl (by decide +kernel)
set_option maxRecDepth 65536 in
theorem w_c1 : (Jvm.Cond.code ({ cls := "com/example/admit/admit/core/JobStateEndedPinLaw", name := "pick", desc := "(I)Lcom/example/admit/admit/core/JobState;" } : Jvm.MethodName) method_2_code (1 : Nat) (Option.some (Jvm.ClassFile.FieldType.object "com/example/admit/admit/core/JobState"))).before args0 about1 = true := code_word (m := ⟨1, 1⟩) (meth := k1m1) (c := k1c1) (by decide +kernel) rfl rfl rfl (by decide +kernel)
set_option maxRecDepth 65536 in
theorem w_c2 : (Jvm.Cond.code ({ cls := "com/example/admit/admit/core/JobState", name := "ended", desc := "()Z" } : Jvm.MethodName) prog_21_method_6_code (1 : Nat) (Option.some Jvm.ClassFile.FieldType.boolean)).before args0 about1 = true := code_word (m := ⟨6, 0⟩) (meth := k6m0) (c := k6c0) (by decide +kernel) rfl rfl rfl (by decide +kernel)
set_option maxRecDepth 65536 in
theorem w_c3 : (Jvm.Cond.code ({ cls := "com/example/admit/admit/core/JobStateEndedPinLaw", name := "expected", desc := "(I)Z" } : Jvm.MethodName) method_3_code (1 : Nat) (Option.some Jvm.ClassFile.FieldType.boolean)).before args0 about1 = true := code_word (m := ⟨1, 2⟩) (meth := k1m2) (c := k1c2) (by decide +kernel) rfl rfl rfl (by decide +kernel)
def codes1 : List Jvm.Cond := [Jvm.Cond.code x code maxLocals ret, Jvm.Cond.code ({ cls := "com/example/admit/admit/core/JobStateEndedPinLaw", name := "pick", desc := "(I)Lcom/example/admit/admit/core/JobState;" } : Jvm.MethodName) method_2_code (1 : Nat) (Option.some (Jvm.ClassFile.FieldType.object "com/example/admit/admit/core/JobState")), Jvm.Cond.code ({ cls := "com/example/admit/admit/core/JobState", name := "ended", desc := "()Z" } : Jvm.MethodName) prog_21_method_6_code (1 : Nat) (Option.some Jvm.ClassFile.FieldType.boolean), Jvm.Cond.code ({ cls := "com/example/admit/admit/core/JobStateEndedPinLaw", name := "expected", desc := "(I)Z" } : Jvm.MethodName) method_3_code (1 : Nat) (Option.some Jvm.ClassFile.FieldType.boolean)]
set_option maxRecDepth 65536 in
theorem codes_eq : words1.filter isCode = codes1 := rfl
theorem w_codes : ∀ c ∈ words1.filter isCode, c.before args0 about1 = true := by
  rw [codes_eq]
  intro c hc
  simp only [codes1, List.mem_cons, List.not_mem_nil, or_false] at hc
  rcases hc with rfl | rfl | rfl | rfl
  · exact w_c0
  · exact w_c1
  · exact w_c2
  · exact w_c3
set_option maxRecDepth 65536 in
theorem w_t1 : (words1.take 24).all (fun c => isCode c || c.before args0 about1) = true := by decide +kernel
set_option maxRecDepth 65536 in
theorem w_t2 : (words1.drop 24).all (fun c => isCode c || c.before args0 about1) = true := by decide +kernel
theorem w_tables : (allAtoms (Jvm.Cond.code x code maxLocals ret :: tables_1)).before args0 about1 = true := by
  rw [allAtoms_all]
  show words1.all (fun c => c.before args0 about1) = true
  refine all_split ?_ w_codes
  rw [← List.take_append_drop 24 words1, List.all_append, w_t1, w_t2]
  rfl
set_option maxRecDepth 65536 in
theorem w_case : (Jvm.Cond.and given_1 narrow_1).before args0 about1 = true := by decide +kernel
theorem w_applies : (headSpec (Jvm.Cond.code x code maxLocals ret :: tables_1) room_1).applies x e0.platform about1 = true :=
  (Spec.applies_iff w_frames).mpr ⟨w_running, w_runnable, w_alone, w_named, w_hears, w_ripe, w_room, w_tables⟩
theorem atStart : AtStart classFile x code maxLocals ret World_1 tables_1 room_1 Calls_1 rest_1 Pre_1 launch0 p0 e0 about1 theMethod args0 below0 :=
  ⟨lists_1, trivial, launch0.admits_env _ _ _, launch0.least_env, fairChoices_fair.cas, fairChoices_fair.clock, w_frames, w_args, w_heap, w_applies, trivial, trivial, w_case⟩
end start1
theorem witness_1 : WitnessClaimed_1 := ⟨start1.p0, start1.e0, start1.about1, start1.theMethod, start1.args0, start1.below0, start1.atStart⟩
end Jvm.Pilot.@@N@@
