import JvmDerived
import JvmDerived.Pilot.@@N@@Statement
import JvmDerived.Pilot.@@N@@Code
set_option linter.unusedVariables false
set_option linter.unusedSimpArgs false
namespace Jvm.RoadKit
open Sem ClassFile Op Lib Jvm.Stand Jvm.Free Jvm.LawKit
section New
variable {p : Program} {l : Launch} {e : Env} {R : Room} {s : State} {m : MethodId} {args : Array Value} {below : List Frame} {meth : Method} {c : Code} {T : State} {locs : List Loc} {cells slots : Nat}
theorem retI (X : Stand p l e R s m args below meth c T locs cells slots) (hx : p.tables.exec = Jvm.exec) {pc : Nat} {Ls : Array Slot} {z : Int32} {rest : List Value} (hret : meth.sig.returnType = some .int) (hd : decode c.code pc = .ok (.ireturn, 1)) {fs : List Frame}
    (hl : ∀ (f : JFrame) (acts : List Action), f.method = m → f.locked = none → f.entered = [] → (doReturn e (T.setTop f) acts (some (.int z))).1 = T.setFrames fs) : Steps p.tables e below (T.setTop (mkF m pc Ls (.int z :: rest))) (T.setFrames fs) := by
  have hm' : T.vm.method? m = some meth := X.method'
  have hn : narrow .int (.int z) = .int z := rfl
  show Steps p.tables e below (T.setTop { method := m, pc := pc, locals := Ls, stack := _ :: rest, locked := none }) _
  jvm_step X.here [X.here.top, hx, hd, hm', hret, hn]
  first | (intro acts; rw [hl _ acts rfl rfl rfl]) | rw [hl _ _ rfl rfl rfl]
  exact Steps.refl _
end New
variable {Z : State} {h h' : Heap} {C n d : String} {v w : Value} {ws : List Addr}
theorem own_staKeep (F : Sta Z h C n d v) (K : Keep h h' ws) (q : ∀ x ∈ ws, ∀ c : Cell, h[x]? = some c → c.vm.isStatics = false) : Sta Z h' C n d v := by
  obtain ⟨cf, i, k, f, st, cell, h1, h2, h3, h4, h5, h6, h7⟩ := F
  refine ⟨cf, i, k, f, st, cell, h1, h2, h3, h4, K.2.1 _ _ h5 (fun r => ?_), h6, h7⟩
  rw [q _ r _ h5] at h6; cases h6
theorem own_staNew {n0 : Nat} (F : Sta Z h C n d v) (K : Keep h h' ws) (hn : ∀ x ∈ ws, n0 ≤ x) (hs : ∀ (x : Addr) (c : Cell), h[x]? = some c → c.vm.isStatics = true → x < n0) : Sta Z h' C n d v := by
  obtain ⟨cf, i, k, f, st, cell, h1, h2, h3, h4, h5, h6, h7⟩ := F
  exact ⟨cf, i, k, f, st, cell, h1, h2, h3, h4, K.2.1 _ _ h5 (fun r => absurd (hs _ _ h5 h6) (Nat.not_lt.mpr (hn _ r))), h6, h7⟩
theorem own_fldI {args : Array Value} {s : State} {t : Term} {a : Addr} {C n d : String} {k : Int32} (ht : t.eval args s none [] s = some (.ref a)) (h : (Cond.eq (.field t C n d) (.int k)).value args s none s [] = some true) : Fld s s.heap a C n d (.int k) := Fld.start ((fld_at ht).symm.trans (eqv_i rfl h))
theorem own_fldR {args : Array Value} {s : State} {t u : Term} {a b : Addr} {C n d : String} (ht : t.eval args s none [] s = some (.ref a)) (hu : u.eval args s none [] s = some (.ref b)) (h : (Cond.eq (.field t C n d) u).value args s none s [] = some true) : Fld s s.heap a C n d (.ref b) := by
  obtain ⟨x, y, ex, ey, kx, ky⟩ := cmp_v (Or.inl h)
  have e1 : s.fieldOf? a C n d = some x := by rw [← fld_at ht]; exact ex
  cases hu.symm.trans ey
  have q : x = .ref b := by
    cases x <;> simp [Cond.value, ex, hu] at h ⊢
    exact h
  exact Fld.start (by rw [e1, q])
theorem own_staL {args : Array Value} {s : State} {C n d : String} {k : Int64} (h : (Cond.eq (.static C n d) (.long k)).value args s none s [] = some true) : (Term.static C n d).eval args s none [] s = some (.long k) := eqv_l rfl h
end Jvm.RoadKit
namespace Jvm.Pilot.@@N@@
open Jvm Jvm.ClassFile Sem Op Lib Jvm.Free Jvm.Stand Jvm.LawKit Jvm.RoadKit Bundle Jvm.Pilot.@@N@@.Jvm.D
theorem pd__I_Lcom_example_admit_admit_core_Operator_ : parseMethodDescriptor "(I)Lcom/example/admit/admit/core/Operator;" = some ⟨[.int], some (.object "com/example/admit/admit/core/Operator")⟩ := by decide +kernel
theorem pd___Z : parseMethodDescriptor "()Z" = some ⟨[], some .boolean⟩ := by decide +kernel
theorem own_k (x : Int32) : (x &&& 7) = 0 ∨ (x &&& 7) = 1 ∨ (x &&& 7) = 2 ∨ (x &&& 7) = 3 ∨ (x &&& 7) = 4 ∨ (x &&& 7) = 5 ∨ (x &&& 7) = 6 ∨ (x &&& 7) = 7 := by
  have h : (x &&& 7).toInt = x.toInt % 8 := c_mask x 7 3 (by decide) (by decide)
  have e : ((x &&& 7)).toInt = 0 ∨ ((x &&& 7)).toInt = 1 ∨ ((x &&& 7)).toInt = 2 ∨ ((x &&& 7)).toInt = 3 ∨ ((x &&& 7)).toInt = 4 ∨ ((x &&& 7)).toInt = 5 ∨ ((x &&& 7)).toInt = 6 ∨ ((x &&& 7)).toInt = 7 := by omega
  rcases e with e | e | e | e | e | e | e | e
  · exact (Or.inl (Int32.toInt_inj.mp (e.trans (by rfl))))
  · exact (Or.inr (Or.inl (Int32.toInt_inj.mp (e.trans (by rfl)))))
  · exact (Or.inr (Or.inr (Or.inl (Int32.toInt_inj.mp (e.trans (by rfl))))))
  · exact (Or.inr (Or.inr (Or.inr (Or.inl (Int32.toInt_inj.mp (e.trans (by rfl)))))))
  · exact (Or.inr (Or.inr (Or.inr (Or.inr (Or.inl (Int32.toInt_inj.mp (e.trans (by rfl))))))))
  · exact (Or.inr (Or.inr (Or.inr (Or.inr (Or.inr (Or.inl (Int32.toInt_inj.mp (e.trans (by rfl)))))))))
  · exact (Or.inr (Or.inr (Or.inr (Or.inr (Or.inr (Or.inr (Or.inl (Int32.toInt_inj.mp (e.trans (by rfl))))))))))
  · exact (Or.inr (Or.inr (Or.inr (Or.inr (Or.inr (Or.inr (Or.inr (Int32.toInt_inj.mp (e.trans (by rfl))))))))))
def own_pick (k : Int32) (b0 b1 b2 b3 b4 b5 b6 b7 : Addr) : Addr := if k = 0 then b0 else if k = 1 then b1 else if k = 2 then b2 else if k = 3 then b3 else if k = 4 then b4 else if k = 5 then b5 else if k = 6 then b6 else b7
def own_num (a b4 b5 b6 b7 : Addr) : Int32 := if a = b4 then 1 else if a = b5 then 1 else if a = b6 then 1 else if a = b7 then 1 else 0
def own_exp (k : Int32) : Int32 := if k < 4 then 0 else 1
theorem d1_0 : decode method_2_code 0 = .ok (.iload_n 0, 1) := by decide +kernel
theorem d1_1 : decode method_2_code 1 = .ok (.ifCond .ne 7, 3) := by decide +kernel
theorem d1_4 : decode method_2_code 4 = .ok (.getstatic 7, 3) := by decide +kernel
theorem d1_7 : decode method_2_code 7 = .ok (.areturn, 1) := by decide +kernel
theorem d1_8 : decode method_2_code 8 = .ok (.iload_n 0, 1) := by decide +kernel
theorem d1_9 : decode method_2_code 9 = .ok (.iconst 1, 1) := by decide +kernel
theorem d1_10 : decode method_2_code 10 = .ok (.if_icmp .ne 7, 3) := by decide +kernel
theorem d1_13 : decode method_2_code 13 = .ok (.getstatic 13, 3) := by decide +kernel
theorem d1_16 : decode method_2_code 16 = .ok (.areturn, 1) := by decide +kernel
theorem d1_17 : decode method_2_code 17 = .ok (.iload_n 0, 1) := by decide +kernel
theorem d1_18 : decode method_2_code 18 = .ok (.iconst 2, 1) := by decide +kernel
theorem d1_19 : decode method_2_code 19 = .ok (.if_icmp .ne 7, 3) := by decide +kernel
theorem d1_22 : decode method_2_code 22 = .ok (.getstatic 16, 3) := by decide +kernel
theorem d1_25 : decode method_2_code 25 = .ok (.areturn, 1) := by decide +kernel
theorem d1_26 : decode method_2_code 26 = .ok (.iload_n 0, 1) := by decide +kernel
theorem d1_27 : decode method_2_code 27 = .ok (.iconst 3, 1) := by decide +kernel
theorem d1_28 : decode method_2_code 28 = .ok (.if_icmp .ne 7, 3) := by decide +kernel
theorem d1_31 : decode method_2_code 31 = .ok (.getstatic 19, 3) := by decide +kernel
theorem d1_34 : decode method_2_code 34 = .ok (.areturn, 1) := by decide +kernel
theorem d1_35 : decode method_2_code 35 = .ok (.iload_n 0, 1) := by decide +kernel
theorem d1_36 : decode method_2_code 36 = .ok (.iconst 4, 1) := by decide +kernel
theorem d1_37 : decode method_2_code 37 = .ok (.if_icmp .ne 7, 3) := by decide +kernel
theorem d1_40 : decode method_2_code 40 = .ok (.getstatic 22, 3) := by decide +kernel
theorem d1_43 : decode method_2_code 43 = .ok (.areturn, 1) := by decide +kernel
theorem d1_44 : decode method_2_code 44 = .ok (.iload_n 0, 1) := by decide +kernel
theorem d1_45 : decode method_2_code 45 = .ok (.iconst 5, 1) := by decide +kernel
theorem d1_46 : decode method_2_code 46 = .ok (.if_icmp .ne 7, 3) := by decide +kernel
theorem d1_49 : decode method_2_code 49 = .ok (.getstatic 25, 3) := by decide +kernel
theorem d1_52 : decode method_2_code 52 = .ok (.areturn, 1) := by decide +kernel
theorem d1_53 : decode method_2_code 53 = .ok (.iload_n 0, 1) := by decide +kernel
theorem d1_54 : decode method_2_code 54 = .ok (.bipush 6, 2) := by decide +kernel
theorem d1_56 : decode method_2_code 56 = .ok (.if_icmp .ne 7, 3) := by decide +kernel
theorem d1_59 : decode method_2_code 59 = .ok (.getstatic 28, 3) := by decide +kernel
theorem d1_62 : decode method_2_code 62 = .ok (.areturn, 1) := by decide +kernel
theorem d1_63 : decode method_2_code 63 = .ok (.getstatic 31, 3) := by decide +kernel
theorem d1_66 : decode method_2_code 66 = .ok (.areturn, 1) := by decide +kernel
theorem ef_1 (m : MethodId) (x0 : Int32) : entryFrame m #[(.int x0)] 1 = mkF m 0 #[.val (.int x0)] [] := by first | (simp [entryFrame, mkF, argsToLocals, Value.category]; done) | rfl
theorem pn_com_example_admit_admit_core_OperatorNumericPinLaw : plainName "com/example/admit/admit/core/OperatorNumericPinLaw" = true := by first | (simp [plainName, overriddenIn]; done) | decide +kernel
def Q_1 (Z : State) (p1 : Int32) (b0 b1 b2 b3 b4 b5 b6 b7 r : Addr) (h0 : Heap) (n0 : Nat) (v : Option Value) (h : Heap) (L : List Loc) : Prop := v = some (.ref r) ∧ Fr n0 L ∧ h = h0
set_option maxRecDepth 65536 in
set_option maxHeartbeats 40000000 in
theorem rm_1 (l : Launch) (Z : State) (a0 : Array Value) (hw : ∀ d ∈ tables_1, d.before a0 Z = true) (ws : List Jvm.Cond) (p1 : Int32) (b0 b1 b2 b3 b4 b5 b6 b7 r : Addr) (h0 : Heap) (n0 : Nat) (Z0 : n0 ≤ h0.size) (S_b0 : Sta Z h0 "com/example/admit/admit/core/Operator" "IN" "Lcom/example/admit/admit/core/Operator;" (.ref b0)) (S_b1 : Sta Z h0 "com/example/admit/admit/core/Operator" "NOT_IN" "Lcom/example/admit/admit/core/Operator;" (.ref b1)) (S_b2 : Sta Z h0 "com/example/admit/admit/core/Operator" "EXISTS" "Lcom/example/admit/admit/core/Operator;" (.ref b2)) (S_b3 : Sta Z h0 "com/example/admit/admit/core/Operator" "DOES_NOT_EXIST" "Lcom/example/admit/admit/core/Operator;" (.ref b3)) (S_b4 : Sta Z h0 "com/example/admit/admit/core/Operator" "GT" "Lcom/example/admit/admit/core/Operator;" (.ref b4)) (S_b5 : Sta Z h0 "com/example/admit/admit/core/Operator" "GTE" "Lcom/example/admit/admit/core/Operator;" (.ref b5)) (S_b6 : Sta Z h0 "com/example/admit/admit/core/Operator" "LT" "Lcom/example/admit/admit/core/Operator;" (.ref b6)) (S_b7 : Sta Z h0 "com/example/admit/admit/core/Operator" "LTE" "Lcom/example/admit/admit/core/Operator;" (.ref b7)) (hsp : own_pick p1 b0 b1 b2 b3 b4 b5 b6 b7 = r) :
    MetFree l (⟨"com/example/admit/admit/core/OperatorNumericPinLaw", "pick", "(I)Lcom/example/admit/admit/core/Operator;"⟩ : MethodName) (head1 (Jvm.Cond.code (⟨"com/example/admit/admit/core/OperatorNumericPinLaw", "pick", "(I)Lcom/example/admit/admit/core/Operator;"⟩ : MethodName) method_2_code 1 (some (.object "com/example/admit/admit/core/Operator")) :: ws) ({ frames := 0, cells := 0, slots := 0, locals := 0 } : Room)) (fun a U => a = #[(.int p1)] ∧ Z.Warmed39 U.vm ∧ U.heap = h0) (fun _ _ _ _ _ => True) (fun _ U o U' => ∃ v L, o = .returned v ∧ Q_1 Z p1 b0 b1 b2 b3 b4 b5 b6 b7 r h0 n0 v U'.heap L ∧ FrameEnd U o U' L ({ frames := 0, cells := 0, slots := 0, locals := 0 } : Room).cells ({ frames := 0, cells := 0, slots := 0, locals := 0 } : Room).slots) := by
  refine MetFree.of_bodySF (plainFor_of_name pn_com_example_admit_admit_core_OperatorNumericPinLaw) hisR ?_
  intro p e s m args below meth c s₁ Bd hml0 hP hK
  obtain ⟨rfl, hZ, hh⟩ := hP
  have hx := Bd.exec
  have hby := Bd.bytes
  have hml : c.maxLocals = 1 := hml0
  have hown : s.vm.findClass "com/example/admit/admit/core/OperatorNumericPinLaw" = some m.cls := findClass_of_methodNamed Bd.named
  have hnm := (name_of_methodNamed Bd.named Bd.method).1
  have X0 : Stand p l e ({ frames := 0, cells := 0, slots := 0, locals := 0 } : Room) s m #[(.int p1)] below meth c s₁ [] 0 0 := Stand.of_body Bd
  have e0 : s₁.heap = h0 := by rw [← hh, Bd.state]; rfl
  have N0 := Fr.nil n0
  have pw0 : ∀ t, Steps p.tables e below (s₁.setTop (mkF m 0 #[.val (.int p1)] [])) t → Steps p.tables e below (s₁.setTop (entryFrame m #[(.int p1)] 1)) t := fun t k => castTop (ef_1 m p1) k
  have K0 : Keep h0 h0 [] := Keep.refl h0 []
  have pw1 : ∀ t, Steps p.tables e below (s₁.setTop (mkF m 1 #[.val (.int p1)] [(.int p1)])) t → Steps p.tables e below (s₁.setTop (entryFrame m #[(.int p1)] 1)) t := by
    intro t k
    refine pw0 t ?_
    refine XS.iloadN X0.here hx rfl (hb hby d1_0) rfl ?_
    show Steps p.tables e below (s₁.setTop (mkF m 1 #[.val (.int p1)] [(.int p1)])) _
    exact k
  by_cases hc2 : p1 = (0 : Int32)
  · skip
    obtain ⟨T3, X3, e3, st3⟩ := getS2 X0 hx hZ hown (host := "") (Or.inl (hw _ (List.mem_of_getElem? (i := 4) rfl))) Via.refl e0 S_b0 (g := (mkF m 4 #[.val (.int p1)] [])) rfl (hb hby d1_4)
    obtain ⟨fs, hr, hrun, hended, hW, hsame⟩ := X3.leave (v := some (.ref b0)) (fun h => by rw [Bd.returns] at h; cases h)
    refine ⟨_, _, pw1 _ ?_, hrun, hended, _, _, rfl, ?_, ⟨_, rfl⟩, hW, hsame.mono (by decide) (by decide)⟩
    · skip
      refine XS.ifNo X0.here hx rfl (hb hby d1_1) rfl ((if0 _ _).trans (teq hc2).2) ?_
      show Steps p.tables e below (s₁.setTop (mkF m 4 #[.val (.int p1)] [])) _
      refine st3 _ ?_
      show Steps p.tables e below (T3.setTop (mkF m 7 #[.val (.int p1)] [(.ref b0)])) _
      exact retOut X3 hx Bd.returns rfl (Or.inr (Or.inr (Or.inr (Or.inr ⟨rfl, rfl, rfl⟩)))) (hb hby d1_7) hr
    · show Q_1 Z p1 b0 b1 b2 b3 b4 b5 b6 b7 r h0 n0 _ T3.heap _
      rw [e3]
      exact ⟨by rw [← hsp]; unfold own_pick; rw [if_pos hc2], N0, rfl⟩
  · skip
    have pw4 : ∀ t, Steps p.tables e below (s₁.setTop (mkF m 10 #[.val (.int p1)] [(.int (1 : Int32)), (.int p1)])) t → Steps p.tables e below (s₁.setTop (entryFrame m #[(.int p1)] 1)) t := by
      intro t k
      refine pw1 t ?_
      refine XS.ifYes X0.here hx rfl (pc0 := 1) (pc' := 8) rfl (hb hby d1_1) rfl ((if0 _ _).trans (feq hc2).2) (by decide) (by decide) ?_
      show Steps p.tables e below (s₁.setTop (mkF m 8 #[.val (.int p1)] [])) _
      refine XS.iloadN X0.here hx rfl (hb hby d1_8) rfl ?_
      show Steps p.tables e below (s₁.setTop (mkF m 9 #[.val (.int p1)] [(.int p1)])) _
      refine XS.iconst X0.here hx rfl (hb hby d1_9) ?_
      show Steps p.tables e below (s₁.setTop (mkF m 10 #[.val (.int p1)] [(.int (1 : Int32)), (.int p1)])) _
      exact k
    by_cases hc5 : p1 = (1 : Int32)
    · skip
      obtain ⟨T6, X6, e6, st6⟩ := getS2 X0 hx hZ hown (host := "") (Or.inl (hw _ (List.mem_of_getElem? (i := 26) rfl))) Via.refl e0 S_b1 (g := (mkF m 13 #[.val (.int p1)] [])) rfl (hb hby d1_13)
      obtain ⟨fs, hr, hrun, hended, hW, hsame⟩ := X6.leave (v := some (.ref b1)) (fun h => by rw [Bd.returns] at h; cases h)
      refine ⟨_, _, pw4 _ ?_, hrun, hended, _, _, rfl, ?_, ⟨_, rfl⟩, hW, hsame.mono (by decide) (by decide)⟩
      · skip
        refine XS.icmpNo X0.here hx rfl (hb hby d1_10) rfl (teq hc5).2 ?_
        show Steps p.tables e below (s₁.setTop (mkF m 13 #[.val (.int p1)] [])) _
        refine st6 _ ?_
        show Steps p.tables e below (T6.setTop (mkF m 16 #[.val (.int p1)] [(.ref b1)])) _
        exact retOut X6 hx Bd.returns rfl (Or.inr (Or.inr (Or.inr (Or.inr ⟨rfl, rfl, rfl⟩)))) (hb hby d1_16) hr
      · show Q_1 Z p1 b0 b1 b2 b3 b4 b5 b6 b7 r h0 n0 _ T6.heap _
        rw [e6]
        exact ⟨by rw [← hsp]; unfold own_pick; rw [if_neg hc2, if_pos hc5], N0, rfl⟩
    · skip
      have pw7 : ∀ t, Steps p.tables e below (s₁.setTop (mkF m 19 #[.val (.int p1)] [(.int (2 : Int32)), (.int p1)])) t → Steps p.tables e below (s₁.setTop (entryFrame m #[(.int p1)] 1)) t := by
        intro t k
        refine pw4 t ?_
        refine XS.icmpYes X0.here hx rfl (pc0 := 10) (pc' := 17) rfl (hb hby d1_10) rfl (feq hc5).2 (by decide) (by decide) ?_
        show Steps p.tables e below (s₁.setTop (mkF m 17 #[.val (.int p1)] [])) _
        refine XS.iloadN X0.here hx rfl (hb hby d1_17) rfl ?_
        show Steps p.tables e below (s₁.setTop (mkF m 18 #[.val (.int p1)] [(.int p1)])) _
        refine XS.iconst X0.here hx rfl (hb hby d1_18) ?_
        show Steps p.tables e below (s₁.setTop (mkF m 19 #[.val (.int p1)] [(.int (2 : Int32)), (.int p1)])) _
        exact k
      by_cases hc8 : p1 = (2 : Int32)
      · skip
        obtain ⟨T9, X9, e9, st9⟩ := getS2 X0 hx hZ hown (host := "") (Or.inl (hw _ (List.mem_of_getElem? (i := 24) rfl))) Via.refl e0 S_b2 (g := (mkF m 22 #[.val (.int p1)] [])) rfl (hb hby d1_22)
        obtain ⟨fs, hr, hrun, hended, hW, hsame⟩ := X9.leave (v := some (.ref b2)) (fun h => by rw [Bd.returns] at h; cases h)
        refine ⟨_, _, pw7 _ ?_, hrun, hended, _, _, rfl, ?_, ⟨_, rfl⟩, hW, hsame.mono (by decide) (by decide)⟩
        · skip
          refine XS.icmpNo X0.here hx rfl (hb hby d1_19) rfl (teq hc8).2 ?_
          show Steps p.tables e below (s₁.setTop (mkF m 22 #[.val (.int p1)] [])) _
          refine st9 _ ?_
          show Steps p.tables e below (T9.setTop (mkF m 25 #[.val (.int p1)] [(.ref b2)])) _
          exact retOut X9 hx Bd.returns rfl (Or.inr (Or.inr (Or.inr (Or.inr ⟨rfl, rfl, rfl⟩)))) (hb hby d1_25) hr
        · show Q_1 Z p1 b0 b1 b2 b3 b4 b5 b6 b7 r h0 n0 _ T9.heap _
          rw [e9]
          exact ⟨by rw [← hsp]; unfold own_pick; rw [if_neg hc2, if_neg hc5, if_pos hc8], N0, rfl⟩
      · skip
        have pw10 : ∀ t, Steps p.tables e below (s₁.setTop (mkF m 28 #[.val (.int p1)] [(.int (3 : Int32)), (.int p1)])) t → Steps p.tables e below (s₁.setTop (entryFrame m #[(.int p1)] 1)) t := by
          intro t k
          refine pw7 t ?_
          refine XS.icmpYes X0.here hx rfl (pc0 := 19) (pc' := 26) rfl (hb hby d1_19) rfl (feq hc8).2 (by decide) (by decide) ?_
          show Steps p.tables e below (s₁.setTop (mkF m 26 #[.val (.int p1)] [])) _
          refine XS.iloadN X0.here hx rfl (hb hby d1_26) rfl ?_
          show Steps p.tables e below (s₁.setTop (mkF m 27 #[.val (.int p1)] [(.int p1)])) _
          refine XS.iconst X0.here hx rfl (hb hby d1_27) ?_
          show Steps p.tables e below (s₁.setTop (mkF m 28 #[.val (.int p1)] [(.int (3 : Int32)), (.int p1)])) _
          exact k
        by_cases hc11 : p1 = (3 : Int32)
        · skip
          obtain ⟨T12, X12, e12, st12⟩ := getS2 X0 hx hZ hown (host := "") (Or.inl (hw _ (List.mem_of_getElem? (i := 20) rfl))) Via.refl e0 S_b3 (g := (mkF m 31 #[.val (.int p1)] [])) rfl (hb hby d1_31)
          obtain ⟨fs, hr, hrun, hended, hW, hsame⟩ := X12.leave (v := some (.ref b3)) (fun h => by rw [Bd.returns] at h; cases h)
          refine ⟨_, _, pw10 _ ?_, hrun, hended, _, _, rfl, ?_, ⟨_, rfl⟩, hW, hsame.mono (by decide) (by decide)⟩
          · skip
            refine XS.icmpNo X0.here hx rfl (hb hby d1_28) rfl (teq hc11).2 ?_
            show Steps p.tables e below (s₁.setTop (mkF m 31 #[.val (.int p1)] [])) _
            refine st12 _ ?_
            show Steps p.tables e below (T12.setTop (mkF m 34 #[.val (.int p1)] [(.ref b3)])) _
            exact retOut X12 hx Bd.returns rfl (Or.inr (Or.inr (Or.inr (Or.inr ⟨rfl, rfl, rfl⟩)))) (hb hby d1_34) hr
          · show Q_1 Z p1 b0 b1 b2 b3 b4 b5 b6 b7 r h0 n0 _ T12.heap _
            rw [e12]
            exact ⟨by rw [← hsp]; unfold own_pick; rw [if_neg hc2, if_neg hc5, if_neg hc8, if_pos hc11], N0, rfl⟩
        · skip
          have pw13 : ∀ t, Steps p.tables e below (s₁.setTop (mkF m 37 #[.val (.int p1)] [(.int (4 : Int32)), (.int p1)])) t → Steps p.tables e below (s₁.setTop (entryFrame m #[(.int p1)] 1)) t := by
            intro t k
            refine pw10 t ?_
            refine XS.icmpYes X0.here hx rfl (pc0 := 28) (pc' := 35) rfl (hb hby d1_28) rfl (feq hc11).2 (by decide) (by decide) ?_
            show Steps p.tables e below (s₁.setTop (mkF m 35 #[.val (.int p1)] [])) _
            refine XS.iloadN X0.here hx rfl (hb hby d1_35) rfl ?_
            show Steps p.tables e below (s₁.setTop (mkF m 36 #[.val (.int p1)] [(.int p1)])) _
            refine XS.iconst X0.here hx rfl (hb hby d1_36) ?_
            show Steps p.tables e below (s₁.setTop (mkF m 37 #[.val (.int p1)] [(.int (4 : Int32)), (.int p1)])) _
            exact k
          by_cases hc14 : p1 = (4 : Int32)
          · skip
            obtain ⟨T15, X15, e15, st15⟩ := getS2 X0 hx hZ hown (host := "") (Or.inl (hw _ (List.mem_of_getElem? (i := 28) rfl))) Via.refl e0 S_b4 (g := (mkF m 40 #[.val (.int p1)] [])) rfl (hb hby d1_40)
            obtain ⟨fs, hr, hrun, hended, hW, hsame⟩ := X15.leave (v := some (.ref b4)) (fun h => by rw [Bd.returns] at h; cases h)
            refine ⟨_, _, pw13 _ ?_, hrun, hended, _, _, rfl, ?_, ⟨_, rfl⟩, hW, hsame.mono (by decide) (by decide)⟩
            · skip
              refine XS.icmpNo X0.here hx rfl (hb hby d1_37) rfl (teq hc14).2 ?_
              show Steps p.tables e below (s₁.setTop (mkF m 40 #[.val (.int p1)] [])) _
              refine st15 _ ?_
              show Steps p.tables e below (T15.setTop (mkF m 43 #[.val (.int p1)] [(.ref b4)])) _
              exact retOut X15 hx Bd.returns rfl (Or.inr (Or.inr (Or.inr (Or.inr ⟨rfl, rfl, rfl⟩)))) (hb hby d1_43) hr
            · show Q_1 Z p1 b0 b1 b2 b3 b4 b5 b6 b7 r h0 n0 _ T15.heap _
              rw [e15]
              exact ⟨by rw [← hsp]; unfold own_pick; rw [if_neg hc2, if_neg hc5, if_neg hc8, if_neg hc11, if_pos hc14], N0, rfl⟩
          · skip
            have pw16 : ∀ t, Steps p.tables e below (s₁.setTop (mkF m 46 #[.val (.int p1)] [(.int (5 : Int32)), (.int p1)])) t → Steps p.tables e below (s₁.setTop (entryFrame m #[(.int p1)] 1)) t := by
              intro t k
              refine pw13 t ?_
              refine XS.icmpYes X0.here hx rfl (pc0 := 37) (pc' := 44) rfl (hb hby d1_37) rfl (feq hc14).2 (by decide) (by decide) ?_
              show Steps p.tables e below (s₁.setTop (mkF m 44 #[.val (.int p1)] [])) _
              refine XS.iloadN X0.here hx rfl (hb hby d1_44) rfl ?_
              show Steps p.tables e below (s₁.setTop (mkF m 45 #[.val (.int p1)] [(.int p1)])) _
              refine XS.iconst X0.here hx rfl (hb hby d1_45) ?_
              show Steps p.tables e below (s₁.setTop (mkF m 46 #[.val (.int p1)] [(.int (5 : Int32)), (.int p1)])) _
              exact k
            by_cases hc17 : p1 = (5 : Int32)
            · skip
              obtain ⟨T18, X18, e18, st18⟩ := getS2 X0 hx hZ hown (host := "") (Or.inl (hw _ (List.mem_of_getElem? (i := 29) rfl))) Via.refl e0 S_b5 (g := (mkF m 49 #[.val (.int p1)] [])) rfl (hb hby d1_49)
              obtain ⟨fs, hr, hrun, hended, hW, hsame⟩ := X18.leave (v := some (.ref b5)) (fun h => by rw [Bd.returns] at h; cases h)
              refine ⟨_, _, pw16 _ ?_, hrun, hended, _, _, rfl, ?_, ⟨_, rfl⟩, hW, hsame.mono (by decide) (by decide)⟩
              · skip
                refine XS.icmpNo X0.here hx rfl (hb hby d1_46) rfl (teq hc17).2 ?_
                show Steps p.tables e below (s₁.setTop (mkF m 49 #[.val (.int p1)] [])) _
                refine st18 _ ?_
                show Steps p.tables e below (T18.setTop (mkF m 52 #[.val (.int p1)] [(.ref b5)])) _
                exact retOut X18 hx Bd.returns rfl (Or.inr (Or.inr (Or.inr (Or.inr ⟨rfl, rfl, rfl⟩)))) (hb hby d1_52) hr
              · show Q_1 Z p1 b0 b1 b2 b3 b4 b5 b6 b7 r h0 n0 _ T18.heap _
                rw [e18]
                exact ⟨by rw [← hsp]; unfold own_pick; rw [if_neg hc2, if_neg hc5, if_neg hc8, if_neg hc11, if_neg hc14, if_pos hc17], N0, rfl⟩
            · skip
              have pw19 : ∀ t, Steps p.tables e below (s₁.setTop (mkF m 56 #[.val (.int p1)] [(.int (6 : Int32)), (.int p1)])) t → Steps p.tables e below (s₁.setTop (entryFrame m #[(.int p1)] 1)) t := by
                intro t k
                refine pw16 t ?_
                refine XS.icmpYes X0.here hx rfl (pc0 := 46) (pc' := 53) rfl (hb hby d1_46) rfl (feq hc17).2 (by decide) (by decide) ?_
                show Steps p.tables e below (s₁.setTop (mkF m 53 #[.val (.int p1)] [])) _
                refine XS.iloadN X0.here hx rfl (hb hby d1_53) rfl ?_
                show Steps p.tables e below (s₁.setTop (mkF m 54 #[.val (.int p1)] [(.int p1)])) _
                refine XS.bipush X0.here hx rfl (hb hby d1_54) ?_
                show Steps p.tables e below (s₁.setTop (mkF m 56 #[.val (.int p1)] [(.int (6 : Int32)), (.int p1)])) _
                exact k
              by_cases hc20 : p1 = (6 : Int32)
              · skip
                obtain ⟨T21, X21, e21, st21⟩ := getS2 X0 hx hZ hown (host := "") (Or.inl (hw _ (List.mem_of_getElem? (i := 22) rfl))) Via.refl e0 S_b6 (g := (mkF m 59 #[.val (.int p1)] [])) rfl (hb hby d1_59)
                obtain ⟨fs, hr, hrun, hended, hW, hsame⟩ := X21.leave (v := some (.ref b6)) (fun h => by rw [Bd.returns] at h; cases h)
                refine ⟨_, _, pw19 _ ?_, hrun, hended, _, _, rfl, ?_, ⟨_, rfl⟩, hW, hsame.mono (by decide) (by decide)⟩
                · skip
                  refine XS.icmpNo X0.here hx rfl (hb hby d1_56) rfl (teq hc20).2 ?_
                  show Steps p.tables e below (s₁.setTop (mkF m 59 #[.val (.int p1)] [])) _
                  refine st21 _ ?_
                  show Steps p.tables e below (T21.setTop (mkF m 62 #[.val (.int p1)] [(.ref b6)])) _
                  exact retOut X21 hx Bd.returns rfl (Or.inr (Or.inr (Or.inr (Or.inr ⟨rfl, rfl, rfl⟩)))) (hb hby d1_62) hr
                · show Q_1 Z p1 b0 b1 b2 b3 b4 b5 b6 b7 r h0 n0 _ T21.heap _
                  rw [e21]
                  exact ⟨by rw [← hsp]; unfold own_pick; rw [if_neg hc2, if_neg hc5, if_neg hc8, if_neg hc11, if_neg hc14, if_neg hc17, if_pos hc20], N0, rfl⟩
              · skip
                obtain ⟨T22, X22, e22, st22⟩ := getS2 X0 hx hZ hown (host := "") (Or.inl (hw _ (List.mem_of_getElem? (i := 23) rfl))) Via.refl e0 S_b7 (g := (mkF m 63 #[.val (.int p1)] [])) rfl (hb hby d1_63)
                obtain ⟨fs, hr, hrun, hended, hW, hsame⟩ := X22.leave (v := some (.ref b7)) (fun h => by rw [Bd.returns] at h; cases h)
                refine ⟨_, _, pw19 _ ?_, hrun, hended, _, _, rfl, ?_, ⟨_, rfl⟩, hW, hsame.mono (by decide) (by decide)⟩
                · skip
                  refine XS.icmpYes X0.here hx rfl (pc0 := 56) (pc' := 63) rfl (hb hby d1_56) rfl (feq hc20).2 (by decide) (by decide) ?_
                  show Steps p.tables e below (s₁.setTop (mkF m 63 #[.val (.int p1)] [])) _
                  refine st22 _ ?_
                  show Steps p.tables e below (T22.setTop (mkF m 66 #[.val (.int p1)] [(.ref b7)])) _
                  exact retOut X22 hx Bd.returns rfl (Or.inr (Or.inr (Or.inr (Or.inr ⟨rfl, rfl, rfl⟩)))) (hb hby d1_66) hr
                · show Q_1 Z p1 b0 b1 b2 b3 b4 b5 b6 b7 r h0 n0 _ T22.heap _
                  rw [e22]
                  exact ⟨by rw [← hsp]; unfold own_pick; rw [if_neg hc2, if_neg hc5, if_neg hc8, if_neg hc11, if_neg hc14, if_neg hc17, if_neg hc20], N0, rfl⟩
theorem d2_0 : decode prog_25_method_6_code 0 = .ok (.aload_n 0, 1) := by decide +kernel
theorem d2_1 : decode prog_25_method_6_code 1 = .ok (.getstatic 16, 3) := by decide +kernel
theorem d2_4 : decode prog_25_method_6_code 4 = .ok (.if_acmp .eq 24, 3) := by decide +kernel
theorem d2_7 : decode prog_25_method_6_code 7 = .ok (.aload_n 0, 1) := by decide +kernel
theorem d2_8 : decode prog_25_method_6_code 8 = .ok (.getstatic 19, 3) := by decide +kernel
theorem d2_11 : decode prog_25_method_6_code 11 = .ok (.if_acmp .eq 17, 3) := by decide +kernel
theorem d2_14 : decode prog_25_method_6_code 14 = .ok (.aload_n 0, 1) := by decide +kernel
theorem d2_15 : decode prog_25_method_6_code 15 = .ok (.getstatic 22, 3) := by decide +kernel
theorem d2_18 : decode prog_25_method_6_code 18 = .ok (.if_acmp .eq 10, 3) := by decide +kernel
theorem d2_21 : decode prog_25_method_6_code 21 = .ok (.aload_n 0, 1) := by decide +kernel
theorem d2_22 : decode prog_25_method_6_code 22 = .ok (.getstatic 25, 3) := by decide +kernel
theorem d2_25 : decode prog_25_method_6_code 25 = .ok (.if_acmp .ne 7, 3) := by decide +kernel
theorem d2_28 : decode prog_25_method_6_code 28 = .ok (.iconst 1, 1) := by decide +kernel
theorem d2_29 : decode prog_25_method_6_code 29 = .ok (.goto 4, 3) := by decide +kernel
theorem d2_32 : decode prog_25_method_6_code 32 = .ok (.iconst 0, 1) := by decide +kernel
theorem d2_33 : decode prog_25_method_6_code 33 = .ok (.ireturn, 1) := by decide +kernel
theorem ef_2 (m : MethodId) (x0 : Addr) : entryFrame m #[(.ref x0)] 1 = mkF m 0 #[.val (.ref x0)] [] := by first | (simp [entryFrame, mkF, argsToLocals, Value.category]; done) | rfl
theorem pn_com_example_admit_admit_core_Operator : plainName "com/example/admit/admit/core/Operator" = true := by first | (simp [plainName, overriddenIn]; done) | decide +kernel
def Q_2 (Z : State) (a1 : Addr) (b4 b5 b6 b7 : Addr) (r : Int32) (h0 : Heap) (n0 : Nat) (v : Option Value) (h : Heap) (L : List Loc) : Prop := v = some (.int r) ∧ Fr n0 L ∧ h = h0
set_option maxRecDepth 65536 in
set_option maxHeartbeats 40000000 in
theorem rm_2 (l : Launch) (Z : State) (a0 : Array Value) (hw : ∀ d ∈ tables_1, d.before a0 Z = true) (ws : List Jvm.Cond) (a1 : Addr) (b4 b5 b6 b7 : Addr) (r : Int32) (h0 : Heap) (n0 : Nat) (Z0 : n0 ≤ h0.size) (S_b4 : Sta Z h0 "com/example/admit/admit/core/Operator" "GT" "Lcom/example/admit/admit/core/Operator;" (.ref b4)) (S_b5 : Sta Z h0 "com/example/admit/admit/core/Operator" "GTE" "Lcom/example/admit/admit/core/Operator;" (.ref b5)) (S_b6 : Sta Z h0 "com/example/admit/admit/core/Operator" "LT" "Lcom/example/admit/admit/core/Operator;" (.ref b6)) (S_b7 : Sta Z h0 "com/example/admit/admit/core/Operator" "LTE" "Lcom/example/admit/admit/core/Operator;" (.ref b7)) (hsp : own_num a1 b4 b5 b6 b7 = r) :
    MetFree l (⟨"com/example/admit/admit/core/Operator", "numeric", "()Z"⟩ : MethodName) (head1 (Jvm.Cond.code (⟨"com/example/admit/admit/core/Operator", "numeric", "()Z"⟩ : MethodName) prog_25_method_6_code 1 (some .boolean) :: ws) ({ frames := 0, cells := 0, slots := 0, locals := 0 } : Room)) (fun a U => a = #[(.ref a1)] ∧ Z.Warmed39 U.vm ∧ U.heap = h0) (fun _ _ _ _ _ => True) (fun _ U o U' => ∃ v L, o = .returned v ∧ Q_2 Z a1 b4 b5 b6 b7 r h0 n0 v U'.heap L ∧ FrameEnd U o U' L ({ frames := 0, cells := 0, slots := 0, locals := 0 } : Room).cells ({ frames := 0, cells := 0, slots := 0, locals := 0 } : Room).slots) := by
  refine MetFree.of_bodySF (plainFor_of_name pn_com_example_admit_admit_core_Operator) hisR ?_
  intro p e s m args below meth c s₁ Bd hml0 hP hK
  obtain ⟨rfl, hZ, hh⟩ := hP
  have hx := Bd.exec
  have hby := Bd.bytes
  have hml : c.maxLocals = 1 := hml0
  have hown : s.vm.findClass "com/example/admit/admit/core/Operator" = some m.cls := findClass_of_methodNamed Bd.named
  have hnm := (name_of_methodNamed Bd.named Bd.method).1
  have X0 : Stand p l e ({ frames := 0, cells := 0, slots := 0, locals := 0 } : Room) s m #[(.ref a1)] below meth c s₁ [] 0 0 := Stand.of_body Bd
  have e0 : s₁.heap = h0 := by rw [← hh, Bd.state]; rfl
  have N0 := Fr.nil n0
  have pw0 : ∀ t, Steps p.tables e below (s₁.setTop (mkF m 0 #[.val (.ref a1)] [])) t → Steps p.tables e below (s₁.setTop (entryFrame m #[(.ref a1)] 1)) t := fun t k => castTop (ef_2 m a1) k
  have K0 : Keep h0 h0 [] := Keep.refl h0 []
  obtain ⟨T23, X23, e23, st23⟩ := getS2 X0 hx hZ hown (host := "") (Or.inl (hw _ (List.mem_of_getElem? (i := 12) rfl))) Via.refl e0 S_b4 (g := (mkF m 1 #[.val (.ref a1)] [(.ref a1)])) rfl (hb hby d2_1)
  have pw24 : ∀ t, Steps p.tables e below (T23.setTop (mkF m 4 #[.val (.ref a1)] [(.ref b4), (.ref a1)])) t → Steps p.tables e below (s₁.setTop (entryFrame m #[(.ref a1)] 1)) t := by
    intro t k
    refine pw0 t ?_
    refine XS.aloadN X0.here hx rfl (hb hby d2_0) rfl rfl ?_
    show Steps p.tables e below (s₁.setTop (mkF m 1 #[.val (.ref a1)] [(.ref a1)])) _
    refine st23 _ ?_
    show Steps p.tables e below (T23.setTop (mkF m 4 #[.val (.ref a1)] [(.ref b4), (.ref a1)])) _
    exact k
  by_cases ha25 : a1 = b4
  · skip
    obtain ⟨fs, hr, hrun, hended, hW, hsame⟩ := X23.leave (v := some (.int (1 : Int32))) (fun h => by rw [Bd.returns] at h; cases h)
    refine ⟨_, _, pw24 _ ?_, hrun, hended, _, _, rfl, ?_, ⟨_, rfl⟩, hW, hsame.mono (by decide) (by decide)⟩
    · skip
      refine Jvm.RoadKit.acmp (g := (mkF m 4 #[.val (.ref a1)] [(.ref b4), (.ref a1)])) X23 hx rfl rfl rfl (pc0 := 4) (pc' := 28) (same := true) rfl (hb hby d2_4) rfl (decide_eq_true (congrArg Value.ref ha25)) (by decide) (by decide) ?_
      show Steps p.tables e below (T23.setTop (mkF m 28 #[.val (.ref a1)] [])) _
      refine XS.iconst X23.here hx rfl (hb hby d2_28) ?_
      show Steps p.tables e below (T23.setTop (mkF m 29 #[.val (.ref a1)] [(.int (1 : Int32))])) _
      refine XS.goto X23.here hx rfl (pc0 := 29) (pc' := 33) rfl (hb hby d2_29) (by decide) (by decide) ?_
      show Steps p.tables e below (T23.setTop (mkF m 33 #[.val (.ref a1)] [(.int (1 : Int32))])) _
      exact retN X23 hx (t := .boolean) Bd.returns (by simp) (hb hby d2_33) hr
    · show Q_2 Z a1 b4 b5 b6 b7 r h0 n0 _ T23.heap _
      rw [e23]
      exact ⟨by rw [← hsp]; unfold own_num; rw [if_pos ha25], N0, rfl⟩
  · skip
    obtain ⟨T26, X26, e26, st26⟩ := getS2 X23 hx hZ hown (host := "") (Or.inl (hw _ (List.mem_of_getElem? (i := 14) rfl))) Via.refl e23 S_b5 (g := (mkF m 8 #[.val (.ref a1)] [(.ref a1)])) rfl (hb hby d2_8)
    have pw27 : ∀ t, Steps p.tables e below (T26.setTop (mkF m 11 #[.val (.ref a1)] [(.ref b5), (.ref a1)])) t → Steps p.tables e below (s₁.setTop (entryFrame m #[(.ref a1)] 1)) t := by
      intro t k
      refine pw24 t ?_
      refine Jvm.RoadKit.acmp (g := (mkF m 4 #[.val (.ref a1)] [(.ref b4), (.ref a1)])) X23 hx rfl rfl rfl (pc0 := 4) (pc' := 7) (same := false) rfl (hb hby d2_4) rfl (decide_eq_false fun q => ha25 (Value.ref.inj q)) (by decide) (by decide) ?_
      show Steps p.tables e below (T23.setTop (mkF m 7 #[.val (.ref a1)] [])) _
      refine XS.aloadN X23.here hx rfl (hb hby d2_7) rfl rfl ?_
      show Steps p.tables e below (T23.setTop (mkF m 8 #[.val (.ref a1)] [(.ref a1)])) _
      refine st26 _ ?_
      show Steps p.tables e below (T26.setTop (mkF m 11 #[.val (.ref a1)] [(.ref b5), (.ref a1)])) _
      exact k
    by_cases ha28 : a1 = b5
    · skip
      obtain ⟨fs, hr, hrun, hended, hW, hsame⟩ := X26.leave (v := some (.int (1 : Int32))) (fun h => by rw [Bd.returns] at h; cases h)
      refine ⟨_, _, pw27 _ ?_, hrun, hended, _, _, rfl, ?_, ⟨_, rfl⟩, hW, hsame.mono (by decide) (by decide)⟩
      · skip
        refine Jvm.RoadKit.acmp (g := (mkF m 11 #[.val (.ref a1)] [(.ref b5), (.ref a1)])) X26 hx rfl rfl rfl (pc0 := 11) (pc' := 28) (same := true) rfl (hb hby d2_11) rfl (decide_eq_true (congrArg Value.ref ha28)) (by decide) (by decide) ?_
        show Steps p.tables e below (T26.setTop (mkF m 28 #[.val (.ref a1)] [])) _
        refine XS.iconst X26.here hx rfl (hb hby d2_28) ?_
        show Steps p.tables e below (T26.setTop (mkF m 29 #[.val (.ref a1)] [(.int (1 : Int32))])) _
        refine XS.goto X26.here hx rfl (pc0 := 29) (pc' := 33) rfl (hb hby d2_29) (by decide) (by decide) ?_
        show Steps p.tables e below (T26.setTop (mkF m 33 #[.val (.ref a1)] [(.int (1 : Int32))])) _
        exact retN X26 hx (t := .boolean) Bd.returns (by simp) (hb hby d2_33) hr
      · show Q_2 Z a1 b4 b5 b6 b7 r h0 n0 _ T26.heap _
        rw [e26]
        exact ⟨by rw [← hsp]; unfold own_num; rw [if_neg ha25, if_pos ha28], N0, rfl⟩
    · skip
      obtain ⟨T29, X29, e29, st29⟩ := getS2 X26 hx hZ hown (host := "") (Or.inl (hw _ (List.mem_of_getElem? (i := 16) rfl))) Via.refl e26 S_b6 (g := (mkF m 15 #[.val (.ref a1)] [(.ref a1)])) rfl (hb hby d2_15)
      have pw30 : ∀ t, Steps p.tables e below (T29.setTop (mkF m 18 #[.val (.ref a1)] [(.ref b6), (.ref a1)])) t → Steps p.tables e below (s₁.setTop (entryFrame m #[(.ref a1)] 1)) t := by
        intro t k
        refine pw27 t ?_
        refine Jvm.RoadKit.acmp (g := (mkF m 11 #[.val (.ref a1)] [(.ref b5), (.ref a1)])) X26 hx rfl rfl rfl (pc0 := 11) (pc' := 14) (same := false) rfl (hb hby d2_11) rfl (decide_eq_false fun q => ha28 (Value.ref.inj q)) (by decide) (by decide) ?_
        show Steps p.tables e below (T26.setTop (mkF m 14 #[.val (.ref a1)] [])) _
        refine XS.aloadN X26.here hx rfl (hb hby d2_14) rfl rfl ?_
        show Steps p.tables e below (T26.setTop (mkF m 15 #[.val (.ref a1)] [(.ref a1)])) _
        refine st29 _ ?_
        show Steps p.tables e below (T29.setTop (mkF m 18 #[.val (.ref a1)] [(.ref b6), (.ref a1)])) _
        exact k
      by_cases ha31 : a1 = b6
      · skip
        obtain ⟨fs, hr, hrun, hended, hW, hsame⟩ := X29.leave (v := some (.int (1 : Int32))) (fun h => by rw [Bd.returns] at h; cases h)
        refine ⟨_, _, pw30 _ ?_, hrun, hended, _, _, rfl, ?_, ⟨_, rfl⟩, hW, hsame.mono (by decide) (by decide)⟩
        · skip
          refine Jvm.RoadKit.acmp (g := (mkF m 18 #[.val (.ref a1)] [(.ref b6), (.ref a1)])) X29 hx rfl rfl rfl (pc0 := 18) (pc' := 28) (same := true) rfl (hb hby d2_18) rfl (decide_eq_true (congrArg Value.ref ha31)) (by decide) (by decide) ?_
          show Steps p.tables e below (T29.setTop (mkF m 28 #[.val (.ref a1)] [])) _
          refine XS.iconst X29.here hx rfl (hb hby d2_28) ?_
          show Steps p.tables e below (T29.setTop (mkF m 29 #[.val (.ref a1)] [(.int (1 : Int32))])) _
          refine XS.goto X29.here hx rfl (pc0 := 29) (pc' := 33) rfl (hb hby d2_29) (by decide) (by decide) ?_
          show Steps p.tables e below (T29.setTop (mkF m 33 #[.val (.ref a1)] [(.int (1 : Int32))])) _
          exact retN X29 hx (t := .boolean) Bd.returns (by simp) (hb hby d2_33) hr
        · show Q_2 Z a1 b4 b5 b6 b7 r h0 n0 _ T29.heap _
          rw [e29]
          exact ⟨by rw [← hsp]; unfold own_num; rw [if_neg ha25, if_neg ha28, if_pos ha31], N0, rfl⟩
      · skip
        obtain ⟨T32, X32, e32, st32⟩ := getS2 X29 hx hZ hown (host := "") (Or.inl (hw _ (List.mem_of_getElem? (i := 18) rfl))) Via.refl e29 S_b7 (g := (mkF m 22 #[.val (.ref a1)] [(.ref a1)])) rfl (hb hby d2_22)
        have pw33 : ∀ t, Steps p.tables e below (T32.setTop (mkF m 25 #[.val (.ref a1)] [(.ref b7), (.ref a1)])) t → Steps p.tables e below (s₁.setTop (entryFrame m #[(.ref a1)] 1)) t := by
          intro t k
          refine pw30 t ?_
          refine Jvm.RoadKit.acmp (g := (mkF m 18 #[.val (.ref a1)] [(.ref b6), (.ref a1)])) X29 hx rfl rfl rfl (pc0 := 18) (pc' := 21) (same := false) rfl (hb hby d2_18) rfl (decide_eq_false fun q => ha31 (Value.ref.inj q)) (by decide) (by decide) ?_
          show Steps p.tables e below (T29.setTop (mkF m 21 #[.val (.ref a1)] [])) _
          refine XS.aloadN X29.here hx rfl (hb hby d2_21) rfl rfl ?_
          show Steps p.tables e below (T29.setTop (mkF m 22 #[.val (.ref a1)] [(.ref a1)])) _
          refine st32 _ ?_
          show Steps p.tables e below (T32.setTop (mkF m 25 #[.val (.ref a1)] [(.ref b7), (.ref a1)])) _
          exact k
        by_cases ha34 : a1 = b7
        · skip
          obtain ⟨fs, hr, hrun, hended, hW, hsame⟩ := X32.leave (v := some (.int (1 : Int32))) (fun h => by rw [Bd.returns] at h; cases h)
          refine ⟨_, _, pw33 _ ?_, hrun, hended, _, _, rfl, ?_, ⟨_, rfl⟩, hW, hsame.mono (by decide) (by decide)⟩
          · skip
            refine Jvm.RoadKit.acmp (g := (mkF m 25 #[.val (.ref a1)] [(.ref b7), (.ref a1)])) X32 hx rfl rfl rfl (pc0 := 25) (pc' := 28) (same := true) rfl (hb hby d2_25) rfl (decide_eq_true (congrArg Value.ref ha34)) (by decide) (by decide) ?_
            show Steps p.tables e below (T32.setTop (mkF m 28 #[.val (.ref a1)] [])) _
            refine XS.iconst X32.here hx rfl (hb hby d2_28) ?_
            show Steps p.tables e below (T32.setTop (mkF m 29 #[.val (.ref a1)] [(.int (1 : Int32))])) _
            refine XS.goto X32.here hx rfl (pc0 := 29) (pc' := 33) rfl (hb hby d2_29) (by decide) (by decide) ?_
            show Steps p.tables e below (T32.setTop (mkF m 33 #[.val (.ref a1)] [(.int (1 : Int32))])) _
            exact retN X32 hx (t := .boolean) Bd.returns (by simp) (hb hby d2_33) hr
          · show Q_2 Z a1 b4 b5 b6 b7 r h0 n0 _ T32.heap _
            rw [e32]
            exact ⟨by rw [← hsp]; unfold own_num; rw [if_neg ha25, if_neg ha28, if_neg ha31, if_pos ha34], N0, rfl⟩
        · skip
          obtain ⟨fs, hr, hrun, hended, hW, hsame⟩ := X32.leave (v := some (.int (0 : Int32))) (fun h => by rw [Bd.returns] at h; cases h)
          refine ⟨_, _, pw33 _ ?_, hrun, hended, _, _, rfl, ?_, ⟨_, rfl⟩, hW, hsame.mono (by decide) (by decide)⟩
          · skip
            refine Jvm.RoadKit.acmp (g := (mkF m 25 #[.val (.ref a1)] [(.ref b7), (.ref a1)])) X32 hx rfl rfl rfl (pc0 := 25) (pc' := 32) (same := false) rfl (hb hby d2_25) rfl (decide_eq_false fun q => ha34 (Value.ref.inj q)) (by decide) (by decide) ?_
            show Steps p.tables e below (T32.setTop (mkF m 32 #[.val (.ref a1)] [])) _
            refine XS.iconst X32.here hx rfl (hb hby d2_32) ?_
            show Steps p.tables e below (T32.setTop (mkF m 33 #[.val (.ref a1)] [(.int (0 : Int32))])) _
            exact retN X32 hx (t := .boolean) Bd.returns (by simp) (hb hby d2_33) hr
          · show Q_2 Z a1 b4 b5 b6 b7 r h0 n0 _ T32.heap _
            rw [e32]
            exact ⟨by rw [← hsp]; unfold own_num; rw [if_neg ha25, if_neg ha28, if_neg ha31, if_neg ha34], N0, rfl⟩
theorem ef_0 (m : MethodId) (x0 : Int32) : entryFrame m #[(.int x0)] maxLocals = mkF m 0 #[.val (.int x0), .unset, .unset, .unset] [] := by first | (simp [entryFrame, mkF, argsToLocals, Value.category, maxLocals]; done) | rfl
def Q_0 (Z : State) (x0 : Int32) (b0 b1 b2 b3 b4 b5 b6 b7 r : Addr) (q : Int32) (h0 : Heap) (n0 : Nat) (v : Option Value) (h : Heap) (L : List Loc) : Prop := v = some (.int 1) ∧ Fr n0 L
set_option maxRecDepth 65536 in
set_option maxHeartbeats 40000000 in
theorem rm_0 (l : Launch) (Z : State) (a0 : Array Value) (hw : ∀ d ∈ tables_1, d.before a0 Z = true) (ws : List Jvm.Cond) (x0 : Int32) (b0 b1 b2 b3 b4 b5 b6 b7 r : Addr) (q : Int32) (h0 : Heap) (n0 : Nat) (Z0 : n0 ≤ h0.size) (S_b0 : Sta Z h0 "com/example/admit/admit/core/Operator" "IN" "Lcom/example/admit/admit/core/Operator;" (.ref b0)) (S_b1 : Sta Z h0 "com/example/admit/admit/core/Operator" "NOT_IN" "Lcom/example/admit/admit/core/Operator;" (.ref b1)) (S_b2 : Sta Z h0 "com/example/admit/admit/core/Operator" "EXISTS" "Lcom/example/admit/admit/core/Operator;" (.ref b2)) (S_b3 : Sta Z h0 "com/example/admit/admit/core/Operator" "DOES_NOT_EXIST" "Lcom/example/admit/admit/core/Operator;" (.ref b3)) (S_b4 : Sta Z h0 "com/example/admit/admit/core/Operator" "GT" "Lcom/example/admit/admit/core/Operator;" (.ref b4)) (S_b5 : Sta Z h0 "com/example/admit/admit/core/Operator" "GTE" "Lcom/example/admit/admit/core/Operator;" (.ref b5)) (S_b6 : Sta Z h0 "com/example/admit/admit/core/Operator" "LT" "Lcom/example/admit/admit/core/Operator;" (.ref b6)) (S_b7 : Sta Z h0 "com/example/admit/admit/core/Operator" "LTE" "Lcom/example/admit/admit/core/Operator;" (.ref b7)) (E_r : Exa Z h0 r "com/example/admit/admit/core/Operator") (hp : own_pick (x0 &&& (7 : Int32)) b0 b1 b2 b3 b4 b5 b6 b7 = r) (hq : own_num r b4 b5 b6 b7 = q) (he : own_exp (x0 &&& (7 : Int32)) = q) :
    MetFree l x (head1 (Jvm.Cond.code x code maxLocals ret :: ws) room_1) (fun a U => a = #[(.int x0)] ∧ Z.Warmed39 U.vm ∧ U.heap = h0) (fun _ _ _ _ _ => True) (fun _ U o U' => ∃ v L, o = .returned v ∧ Q_0 Z x0 b0 b1 b2 b3 b4 b5 b6 b7 r q h0 n0 v U'.heap L ∧ FrameEnd U o U' L room_1.cells room_1.slots) := by
  refine MetFree.of_bodySF (plainFor_of_name pn_com_example_admit_admit_core_OperatorNumericPinLaw) hisR ?_
  intro p e s m args below meth c s₁ Bd hml0 hP hK
  obtain ⟨rfl, hZ, hh⟩ := hP
  have hx := Bd.exec
  have hby := Bd.bytes
  have hml : c.maxLocals = 4 := hml0
  have hown : s.vm.findClass "com/example/admit/admit/core/OperatorNumericPinLaw" = some m.cls := findClass_of_methodNamed Bd.named
  have hnm := (name_of_methodNamed Bd.named Bd.method).1
  have X0 : Stand p l e room_1 s m #[(.int x0)] below meth c s₁ [] 0 0 := Stand.of_body Bd
  have e0 : s₁.heap = h0 := by rw [← hh, Bd.state]; rfl
  have N0 := Fr.nil n0
  have pw0 : ∀ t, Steps p.tables e below (s₁.setTop (mkF m 0 #[.val (.int x0), .unset, .unset, .unset] [])) t → Steps p.tables e below (s₁.setTop (entryFrame m #[(.int x0)] maxLocals)) t := fun t k => castTop (ef_0 m x0) k
  have K0 : Keep h0 h0 [] := Keep.refl h0 []
  obtain ⟨_, _, ⟨T35, L35, k35, n35⟩, -, X35, ⟨Lc35, hQ35, l35, y35, z35⟩, st35⟩ := Jvm.LawKit.callS X0 hx (y := (⟨"com/example/admit/admit/core/OperatorNumericPinLaw", "pick", "(I)Lcom/example/admit/admit/core/Operator;"⟩ : MethodName)) hown (mvT hZ (hw _ (List.mem_of_getElem? (i := 0) rfl))) (mvT hZ (hw _ (List.mem_of_getElem? (i := 1) rfl))) (mvT hZ (hw _ (List.mem_of_getElem? (i := 2) rfl))) (mvT hZ (hw _ (List.mem_of_getElem? (i := 3) rfl))) (by decide) (backOf (W := 0) (rm_1 l Z a0 hw [] (x0 &&& (7 : Int32)) b0 b1 b2 b3 b4 b5 b6 b7 r h0 n0 Z0 S_b0 S_b1 S_b2 S_b3 S_b4 S_b5 S_b6 S_b7 hp) hZ (hw _ (List.mem_of_getElem? (i := 3) rfl)) (hw _ (List.mem_of_getElem? (i := 2) rfl)) (by decide) (by decide)) (g := (mkF m 6 #[.val (.int x0), .val (.int (x0 &&& (7 : Int32))), .unset, .unset] [(.int (x0 &&& (7 : Int32)))])) rfl (by rw [hml]; rfl) (argsL := [(.int (x0 &&& (7 : Int32)))]) (rest := []) (lenOf pd__I_Lcom_example_admit_admit_core_Operator_ rfl) rfl (by show 2 * 0 + _ ≤ _; exact Nat.le_of_eq rfl) (hb hby at_6) (fun _ _ => ⟨rfl, e0, (by decide : 0 + 0 ≤ _), (by decide : 0 + 0 ≤ _)⟩)
  dsimp only [Pt.U, Pt.locs, Pt.cells, Pt.slots] at X35 l35 y35 z35 st35 hQ35
  subst l35 y35 z35
  obtain ⟨rfl, N35q, e35q⟩ := hQ35
  have N35 := Fr.app N0 N35q
  have pw36 : ∀ t, Steps p.tables e below (T35.setTop (mkF m 12 #[.val (.int x0), .val (.int (x0 &&& (7 : Int32))), .val (.ref r), .unset] [(.int (4 : Int32)), (.int (x0 &&& (7 : Int32)))])) t → Steps p.tables e below (s₁.setTop (entryFrame m #[(.int x0)] maxLocals)) t := by
    intro t k
    refine pw0 t ?_
    refine XS.iloadN X0.here hx rfl (hb hby at_0) rfl ?_
    show Steps p.tables e below (s₁.setTop (mkF m 1 #[.val (.int x0), .unset, .unset, .unset] [(.int x0)])) _
    refine XS.bipush X0.here hx rfl (hb hby at_1) ?_
    show Steps p.tables e below (s₁.setTop (mkF m 3 #[.val (.int x0), .unset, .unset, .unset] [(.int (7 : Int32)), (.int x0)])) _
    refine XS.iand X0.here hx rfl (hb hby at_3) rfl ?_
    show Steps p.tables e below (s₁.setTop (mkF m 4 #[.val (.int x0), .unset, .unset, .unset] [(.int (x0 &&& (7 : Int32)))])) _
    refine XS.istoreN X0.here hx rfl (hb hby at_4) rfl (l' := #[.val (.int x0), .val (.int (x0 &&& (7 : Int32))), .unset, .unset]) rfl ?_
    show Steps p.tables e below (s₁.setTop (mkF m 5 #[.val (.int x0), .val (.int (x0 &&& (7 : Int32))), .unset, .unset] [])) _
    refine XS.iloadN X0.here hx rfl (hb hby at_5) rfl ?_
    show Steps p.tables e below (s₁.setTop (mkF m 6 #[.val (.int x0), .val (.int (x0 &&& (7 : Int32))), .unset, .unset] [(.int (x0 &&& (7 : Int32)))])) _
    refine st35 _ ?_
    show Steps p.tables e below (T35.setTop (mkF m 9 #[.val (.int x0), .val (.int (x0 &&& (7 : Int32))), .unset, .unset] [(.ref r)])) _
    refine XS.astoreN X35.here hx rfl (hb hby at_9) rfl rfl (l' := #[.val (.int x0), .val (.int (x0 &&& (7 : Int32))), .val (.ref r), .unset]) rfl ?_
    show Steps p.tables e below (T35.setTop (mkF m 10 #[.val (.int x0), .val (.int (x0 &&& (7 : Int32))), .val (.ref r), .unset] [])) _
    refine XS.iloadN X35.here hx rfl (hb hby at_10) rfl ?_
    show Steps p.tables e below (T35.setTop (mkF m 11 #[.val (.int x0), .val (.int (x0 &&& (7 : Int32))), .val (.ref r), .unset] [(.int (x0 &&& (7 : Int32)))])) _
    refine XS.iconst X35.here hx rfl (hb hby at_11) ?_
    show Steps p.tables e below (T35.setTop (mkF m 12 #[.val (.int x0), .val (.int (x0 &&& (7 : Int32))), .val (.ref r), .unset] [(.int (4 : Int32)), (.int (x0 &&& (7 : Int32)))])) _
    exact k
  by_cases hc37 : (x0 &&& (7 : Int32)) < (4 : Int32)
  · skip
    obtain ⟨cq38, kq38, q38a, q38b, q38c⟩ := isOf hZ e35q E_r
    obtain ⟨_, _, ⟨T38, L38, k38, n38⟩, -, X38, ⟨Lc38, hQ38, l38, y38, z38⟩, st38⟩ := X35.virtualBack hx (y := (⟨"com/example/admit/admit/core/Operator", "numeric", "()Z"⟩ : MethodName)) (z := (⟨"com/example/admit/admit/core/Operator", "numeric", "()Z"⟩ : MethodName)) hown (mvT hZ (hw _ (List.mem_of_getElem? (i := 7) rfl))) (mvT hZ (hw _ (List.mem_of_getElem? (i := 8) rfl))) (notFace_of_selects (args := #[]) (mvT hZ (hw _ (List.mem_of_getElem? (i := 10) rfl)))) (mvT hZ (hw _ (List.mem_of_getElem? (i := 10) rfl))) (mvT hZ (hw _ (List.mem_of_getElem? (i := 9) rfl))) (by decide) (backOf (W := 0) (rm_2 l Z a0 hw [] r b4 b5 b6 b7 q h0 n0 Z0 S_b4 S_b5 S_b6 S_b7 hq) hZ (hw _ (List.mem_of_getElem? (i := 11) rfl)) (hw _ (List.mem_of_getElem? (i := 5) rfl)) (by decide) (by decide)) q38a q38c (g := (mkF m 22 #[.val (.int x0), .val (.int (x0 &&& (7 : Int32))), .val (.ref r), .val (.int (0 : Int32))] [(.ref r)])) rfl (by rw [hml]; rfl) (Steps.refl _) (argsL := []) (rest := []) (lenOf pd___Z rfl) rfl (by show 2 * 0 + _ ≤ _; exact Nat.le_of_eq rfl) (hb hby at_22) (fun _ _ => ⟨rfl, e35q, (by decide : 0 + 0 ≤ _), (by decide : 0 + 0 ≤ _)⟩)
    dsimp only [Pt.U, Pt.locs, Pt.cells, Pt.slots] at X38 l38 y38 z38 st38 hQ38
    subst l38 y38 z38
    obtain ⟨rfl, N38q, e38q⟩ := hQ38
    have N38 := Fr.app N35 N38q
    obtain ⟨fs, hr, hrun, hended, hW, hsame⟩ := X38.leave (v := some (.int (1 : Int32))) (fun h => by rw [Bd.returns] at h; cases h)
    refine ⟨_, _, pw36 _ ?_, hrun, hended, _, _, rfl, ?_, ⟨_, rfl⟩, hW, hsame.mono (by decide) (by decide)⟩
    · skip
      refine XS.icmpYes X35.here hx rfl (pc0 := 12) (pc' := 19) rfl (hb hby at_12) rfl (tlt hc37).1 (by decide) (by decide) ?_
      show Steps p.tables e below (T35.setTop (mkF m 19 #[.val (.int x0), .val (.int (x0 &&& (7 : Int32))), .val (.ref r), .unset] [])) _
      refine XS.iconst X35.here hx rfl (hb hby at_19) ?_
      show Steps p.tables e below (T35.setTop (mkF m 20 #[.val (.int x0), .val (.int (x0 &&& (7 : Int32))), .val (.ref r), .unset] [(.int (0 : Int32))])) _
      refine XS.istoreN X35.here hx rfl (hb hby at_20) rfl (l' := #[.val (.int x0), .val (.int (x0 &&& (7 : Int32))), .val (.ref r), .val (.int (0 : Int32))]) rfl ?_
      show Steps p.tables e below (T35.setTop (mkF m 21 #[.val (.int x0), .val (.int (x0 &&& (7 : Int32))), .val (.ref r), .val (.int (0 : Int32))] [])) _
      refine XS.aloadN X35.here hx rfl (hb hby at_21) rfl rfl ?_
      show Steps p.tables e below (T35.setTop (mkF m 22 #[.val (.int x0), .val (.int (x0 &&& (7 : Int32))), .val (.ref r), .val (.int (0 : Int32))] [(.ref r)])) _
      refine st38.trans ?_
      show Steps p.tables e below (T38.setTop (mkF m 25 #[.val (.int x0), .val (.int (x0 &&& (7 : Int32))), .val (.ref r), .val (.int (0 : Int32))] [(.int q)])) _
      refine XS.iloadN X38.here hx rfl (hb hby at_25) rfl ?_
      show Steps p.tables e below (T38.setTop (mkF m 26 #[.val (.int x0), .val (.int (x0 &&& (7 : Int32))), .val (.ref r), .val (.int (0 : Int32))] [(.int (0 : Int32)), (.int q)])) _
      refine XS.icmpNo X38.here hx rfl (hb hby at_26) rfl (teq (he.symm.trans (if_pos hc37) : q = (0 : Int32))).2 ?_
      show Steps p.tables e below (T38.setTop (mkF m 29 #[.val (.int x0), .val (.int (x0 &&& (7 : Int32))), .val (.ref r), .val (.int (0 : Int32))] [])) _
      refine XS.iconst X38.here hx rfl (hb hby at_29) ?_
      show Steps p.tables e below (T38.setTop (mkF m 30 #[.val (.int x0), .val (.int (x0 &&& (7 : Int32))), .val (.ref r), .val (.int (0 : Int32))] [(.int (1 : Int32))])) _
      refine XS.goto X38.here hx rfl (pc0 := 30) (pc' := 34) rfl (hb hby at_30) (by decide) (by decide) ?_
      show Steps p.tables e below (T38.setTop (mkF m 34 #[.val (.int x0), .val (.int (x0 &&& (7 : Int32))), .val (.ref r), .val (.int (0 : Int32))] [(.int (1 : Int32))])) _
      exact retN X38 hx (t := .boolean) Bd.returns (by simp) (hb hby at_34) hr
    · show Q_0 Z x0 b0 b1 b2 b3 b4 b5 b6 b7 r q h0 n0 _ T38.heap _
      rw [e38q]
      exact ⟨rfl, N38⟩
  · skip
    obtain ⟨cq39, kq39, q39a, q39b, q39c⟩ := isOf hZ e35q E_r
    obtain ⟨_, _, ⟨T39, L39, k39, n39⟩, -, X39, ⟨Lc39, hQ39, l39, y39, z39⟩, st39⟩ := X35.virtualBack hx (y := (⟨"com/example/admit/admit/core/Operator", "numeric", "()Z"⟩ : MethodName)) (z := (⟨"com/example/admit/admit/core/Operator", "numeric", "()Z"⟩ : MethodName)) hown (mvT hZ (hw _ (List.mem_of_getElem? (i := 7) rfl))) (mvT hZ (hw _ (List.mem_of_getElem? (i := 8) rfl))) (notFace_of_selects (args := #[]) (mvT hZ (hw _ (List.mem_of_getElem? (i := 10) rfl)))) (mvT hZ (hw _ (List.mem_of_getElem? (i := 10) rfl))) (mvT hZ (hw _ (List.mem_of_getElem? (i := 9) rfl))) (by decide) (backOf (W := 0) (rm_2 l Z a0 hw [] r b4 b5 b6 b7 q h0 n0 Z0 S_b4 S_b5 S_b6 S_b7 hq) hZ (hw _ (List.mem_of_getElem? (i := 11) rfl)) (hw _ (List.mem_of_getElem? (i := 5) rfl)) (by decide) (by decide)) q39a q39c (g := (mkF m 22 #[.val (.int x0), .val (.int (x0 &&& (7 : Int32))), .val (.ref r), .val (.int (1 : Int32))] [(.ref r)])) rfl (by rw [hml]; rfl) (Steps.refl _) (argsL := []) (rest := []) (lenOf pd___Z rfl) rfl (by show 2 * 0 + _ ≤ _; exact Nat.le_of_eq rfl) (hb hby at_22) (fun _ _ => ⟨rfl, e35q, (by decide : 0 + 0 ≤ _), (by decide : 0 + 0 ≤ _)⟩)
    dsimp only [Pt.U, Pt.locs, Pt.cells, Pt.slots] at X39 l39 y39 z39 st39 hQ39
    subst l39 y39 z39
    obtain ⟨rfl, N39q, e39q⟩ := hQ39
    have N39 := Fr.app N35 N39q
    obtain ⟨fs, hr, hrun, hended, hW, hsame⟩ := X39.leave (v := some (.int (1 : Int32))) (fun h => by rw [Bd.returns] at h; cases h)
    refine ⟨_, _, pw36 _ ?_, hrun, hended, _, _, rfl, ?_, ⟨_, rfl⟩, hW, hsame.mono (by decide) (by decide)⟩
    · skip
      refine XS.icmpNo X35.here hx rfl (hb hby at_12) rfl (flt hc37).1 ?_
      show Steps p.tables e below (T35.setTop (mkF m 15 #[.val (.int x0), .val (.int (x0 &&& (7 : Int32))), .val (.ref r), .unset] [])) _
      refine XS.iconst X35.here hx rfl (hb hby at_15) ?_
      show Steps p.tables e below (T35.setTop (mkF m 16 #[.val (.int x0), .val (.int (x0 &&& (7 : Int32))), .val (.ref r), .unset] [(.int (1 : Int32))])) _
      refine XS.goto X35.here hx rfl (pc0 := 16) (pc' := 20) rfl (hb hby at_16) (by decide) (by decide) ?_
      show Steps p.tables e below (T35.setTop (mkF m 20 #[.val (.int x0), .val (.int (x0 &&& (7 : Int32))), .val (.ref r), .unset] [(.int (1 : Int32))])) _
      refine XS.istoreN X35.here hx rfl (hb hby at_20) rfl (l' := #[.val (.int x0), .val (.int (x0 &&& (7 : Int32))), .val (.ref r), .val (.int (1 : Int32))]) rfl ?_
      show Steps p.tables e below (T35.setTop (mkF m 21 #[.val (.int x0), .val (.int (x0 &&& (7 : Int32))), .val (.ref r), .val (.int (1 : Int32))] [])) _
      refine XS.aloadN X35.here hx rfl (hb hby at_21) rfl rfl ?_
      show Steps p.tables e below (T35.setTop (mkF m 22 #[.val (.int x0), .val (.int (x0 &&& (7 : Int32))), .val (.ref r), .val (.int (1 : Int32))] [(.ref r)])) _
      refine st39.trans ?_
      show Steps p.tables e below (T39.setTop (mkF m 25 #[.val (.int x0), .val (.int (x0 &&& (7 : Int32))), .val (.ref r), .val (.int (1 : Int32))] [(.int q)])) _
      refine XS.iloadN X39.here hx rfl (hb hby at_25) rfl ?_
      show Steps p.tables e below (T39.setTop (mkF m 26 #[.val (.int x0), .val (.int (x0 &&& (7 : Int32))), .val (.ref r), .val (.int (1 : Int32))] [(.int (1 : Int32)), (.int q)])) _
      refine XS.icmpNo X39.here hx rfl (hb hby at_26) rfl (teq (he.symm.trans (if_neg hc37) : q = (1 : Int32))).2 ?_
      show Steps p.tables e below (T39.setTop (mkF m 29 #[.val (.int x0), .val (.int (x0 &&& (7 : Int32))), .val (.ref r), .val (.int (1 : Int32))] [])) _
      refine XS.iconst X39.here hx rfl (hb hby at_29) ?_
      show Steps p.tables e below (T39.setTop (mkF m 30 #[.val (.int x0), .val (.int (x0 &&& (7 : Int32))), .val (.ref r), .val (.int (1 : Int32))] [(.int (1 : Int32))])) _
      refine XS.goto X39.here hx rfl (pc0 := 30) (pc' := 34) rfl (hb hby at_30) (by decide) (by decide) ?_
      show Steps p.tables e below (T39.setTop (mkF m 34 #[.val (.int x0), .val (.int (x0 &&& (7 : Int32))), .val (.ref r), .val (.int (1 : Int32))] [(.int (1 : Int32))])) _
      exact retN X39 hx (t := .boolean) Bd.returns (by simp) (hb hby at_34) hr
    · show Q_0 Z x0 b0 b1 b2 b3 b4 b5 b6 b7 r q h0 n0 _ T39.heap _
      rw [e39q]
      exact ⟨rfl, N39⟩
set_option maxRecDepth 65536 in
set_option maxHeartbeats 40000000 in
theorem comes_1 {Post : Tables → Env → Array Value → State → Outcome → State → Prop} (hpost : ∀ tb e args s v u, (limb_1_1.after args s (.returned v) u = true ∧ limb_1_2.after args s (.returned v) u = true ∧ True) → FrameEnd s (.returned v) u (Jvm.fieldLocs frame_1_writes args s ++ Jvm.arrayLocs frame_1_arrays args s ++ Jvm.staticLocs frame_1_statics s) 0 0 → Post tb e args s (.returned v) u) :
    ArmFor flags0 classFile x code maxLocals ret World_1 tables_1 room_1 Calls_1 rest_1 Pre_1 Post := by
  intro l hfl _ _ p e ha hc hk s m args below hf hA hF happ hP
  obtain ⟨hcalls, hrest, hpre⟩ := hP
  obtain ⟨-, -, -, hnamed, -, -, -, hat⟩ := (Spec.applies_iff hf).mp happ
  obtain ⟨hg, hn⟩ := and_e (Cond.before_iff.mp (show (Jvm.Cond.and given_1 narrow_1).before args s = true from hpre))
  obtain ⟨g40, g41⟩ := and_e hg
  obtain ⟨w0, rfl⟩ : ∃ w0 : Value, args = #[w0] := by
    have hs : args.size = 1 := by simpa [Cond.value, given_1] using g40
    obtain ⟨L⟩ := args
    match L, hs with
    | [w0], _ => exact ⟨w0, rfl⟩
  have hw := fun d (hd : d ∈ tables_1) => atoms_spec (ws := Jvm.Cond.code x code maxLocals ret :: tables_1) hat d (List.mem_cons_of_mem _ hd)
  have hfit : Fit s := fun {y c} hc i hi => by
    obtain ⟨ha, rfl⟩ := Array.getElem?_eq_some_iff.mp hc
    have q := List.all_eq_true.mp ((Array.all_eq_true_iff_forall_mem.mp hF) _ (Array.getElem_mem ha)) i (List.mem_range.mpr hi)
    simpa [Array.getElem?_eq_getElem hi] using q
  obtain ⟨x0, ei0⟩ := is_v g41
  obtain rfl : w0 = (.int x0) := Option.some.inj ei0
  obtain ⟨g42, g43⟩ := and_e hn
  obtain ⟨g44, g45⟩ := and_e g43
  obtain ⟨g46, g47⟩ := and_e g45
  obtain ⟨g48, g49⟩ := and_e g47
  obtain ⟨g50, g51⟩ := and_e g49
  obtain ⟨g52, g53⟩ := and_e g51
  obtain ⟨g54, g55⟩ := and_e g53
  obtain ⟨g56, g57⟩ := and_e g55
  obtain ⟨g58, g59⟩ := and_e g57
  obtain ⟨g60, g61⟩ := and_e g59
  obtain ⟨g62, g63⟩ := and_e g61
  obtain ⟨g64, g65⟩ := and_e g63
  obtain ⟨g66, g67⟩ := and_e g65
  obtain ⟨g68, g69⟩ := and_e g67
  obtain ⟨g70, g71⟩ := and_e g69
  obtain ⟨a_IN, ev_a_IN⟩ := exa_v g42
  have E_a_IN : Exa s s.heap a_IN "com/example/admit/admit/core/Operator" := Exa.start ev_a_IN g42
  have S_a_IN : Sta s s.heap "com/example/admit/admit/core/Operator" "IN" "Lcom/example/admit/admit/core/Operator;" (.ref a_IN) := Sta.start ev_a_IN (Or.inr ⟨(hw _ (List.mem_of_getElem? (i := 5) rfl)), (hw _ (List.mem_of_getElem? (i := 6) rfl))⟩)
  obtain ⟨a_GT, ev_a_GT⟩ := exa_v g44
  have E_a_GT : Exa s s.heap a_GT "com/example/admit/admit/core/Operator" := Exa.start ev_a_GT g44
  have S_a_GT : Sta s s.heap "com/example/admit/admit/core/Operator" "GT" "Lcom/example/admit/admit/core/Operator;" (.ref a_GT) := Sta.start ev_a_GT (Or.inr ⟨(hw _ (List.mem_of_getElem? (i := 5) rfl)), (hw _ (List.mem_of_getElem? (i := 13) rfl))⟩)
  obtain ⟨a_GTE, ev_a_GTE⟩ := exa_v g50
  have E_a_GTE : Exa s s.heap a_GTE "com/example/admit/admit/core/Operator" := Exa.start ev_a_GTE g50
  have S_a_GTE : Sta s s.heap "com/example/admit/admit/core/Operator" "GTE" "Lcom/example/admit/admit/core/Operator;" (.ref a_GTE) := Sta.start ev_a_GTE (Or.inr ⟨(hw _ (List.mem_of_getElem? (i := 5) rfl)), (hw _ (List.mem_of_getElem? (i := 15) rfl))⟩)
  obtain ⟨a_LT, ev_a_LT⟩ := exa_v g54
  have E_a_LT : Exa s s.heap a_LT "com/example/admit/admit/core/Operator" := Exa.start ev_a_LT g54
  have S_a_LT : Sta s s.heap "com/example/admit/admit/core/Operator" "LT" "Lcom/example/admit/admit/core/Operator;" (.ref a_LT) := Sta.start ev_a_LT (Or.inr ⟨(hw _ (List.mem_of_getElem? (i := 5) rfl)), (hw _ (List.mem_of_getElem? (i := 17) rfl))⟩)
  obtain ⟨a_LTE, ev_a_LTE⟩ := exa_v g58
  have E_a_LTE : Exa s s.heap a_LTE "com/example/admit/admit/core/Operator" := Exa.start ev_a_LTE g58
  have S_a_LTE : Sta s s.heap "com/example/admit/admit/core/Operator" "LTE" "Lcom/example/admit/admit/core/Operator;" (.ref a_LTE) := Sta.start ev_a_LTE (Or.inr ⟨(hw _ (List.mem_of_getElem? (i := 5) rfl)), (hw _ (List.mem_of_getElem? (i := 19) rfl))⟩)
  obtain ⟨a_DOES_NOT_EXIST, ev_a_DOES_NOT_EXIST⟩ := exa_v g62
  have E_a_DOES_NOT_EXIST : Exa s s.heap a_DOES_NOT_EXIST "com/example/admit/admit/core/Operator" := Exa.start ev_a_DOES_NOT_EXIST g62
  have S_a_DOES_NOT_EXIST : Sta s s.heap "com/example/admit/admit/core/Operator" "DOES_NOT_EXIST" "Lcom/example/admit/admit/core/Operator;" (.ref a_DOES_NOT_EXIST) := Sta.start ev_a_DOES_NOT_EXIST (Or.inr ⟨(hw _ (List.mem_of_getElem? (i := 5) rfl)), (hw _ (List.mem_of_getElem? (i := 21) rfl))⟩)
  obtain ⟨a_EXISTS, ev_a_EXISTS⟩ := exa_v g66
  have E_a_EXISTS : Exa s s.heap a_EXISTS "com/example/admit/admit/core/Operator" := Exa.start ev_a_EXISTS g66
  have S_a_EXISTS : Sta s s.heap "com/example/admit/admit/core/Operator" "EXISTS" "Lcom/example/admit/admit/core/Operator;" (.ref a_EXISTS) := Sta.start ev_a_EXISTS (Or.inr ⟨(hw _ (List.mem_of_getElem? (i := 5) rfl)), (hw _ (List.mem_of_getElem? (i := 25) rfl))⟩)
  obtain ⟨a_NOT_IN, ev_a_NOT_IN⟩ := exa_v g70
  have E_a_NOT_IN : Exa s s.heap a_NOT_IN "com/example/admit/admit/core/Operator" := Exa.start ev_a_NOT_IN g70
  have S_a_NOT_IN : Sta s s.heap "com/example/admit/admit/core/Operator" "NOT_IN" "Lcom/example/admit/admit/core/Operator;" (.ref a_NOT_IN) := Sta.start ev_a_NOT_IN (Or.inr ⟨(hw _ (List.mem_of_getElem? (i := 5) rfl)), (hw _ (List.mem_of_getElem? (i := 27) rfl))⟩)
  have O_a_IN : Fld s s.heap a_IN "java/lang/Enum" "ordinal" "I" (.int (0 : Int32)) := own_fldI ev_a_IN g46
  have O_a_GT : Fld s s.heap a_GT "java/lang/Enum" "ordinal" "I" (.int (4 : Int32)) := own_fldI ev_a_GT g48
  have O_a_GTE : Fld s s.heap a_GTE "java/lang/Enum" "ordinal" "I" (.int (5 : Int32)) := own_fldI ev_a_GTE g52
  have O_a_LT : Fld s s.heap a_LT "java/lang/Enum" "ordinal" "I" (.int (6 : Int32)) := own_fldI ev_a_LT g56
  have O_a_LTE : Fld s s.heap a_LTE "java/lang/Enum" "ordinal" "I" (.int (7 : Int32)) := own_fldI ev_a_LTE g60
  have O_a_DOES_NOT_EXIST : Fld s s.heap a_DOES_NOT_EXIST "java/lang/Enum" "ordinal" "I" (.int (3 : Int32)) := own_fldI ev_a_DOES_NOT_EXIST g64
  have O_a_EXISTS : Fld s s.heap a_EXISTS "java/lang/Enum" "ordinal" "I" (.int (2 : Int32)) := own_fldI ev_a_EXISTS g68
  have O_a_NOT_IN : Fld s s.heap a_NOT_IN "java/lang/Enum" "ordinal" "I" (.int (1 : Int32)) := own_fldI ev_a_NOT_IN g71
  have ne_0_4 : a_IN ≠ a_GT := Fld.ne O_a_IN O_a_GT (by decide)
  have ne_0_5 : a_IN ≠ a_GTE := Fld.ne O_a_IN O_a_GTE (by decide)
  have ne_0_6 : a_IN ≠ a_LT := Fld.ne O_a_IN O_a_LT (by decide)
  have ne_0_7 : a_IN ≠ a_LTE := Fld.ne O_a_IN O_a_LTE (by decide)
  have ne_1_4 : a_NOT_IN ≠ a_GT := Fld.ne O_a_NOT_IN O_a_GT (by decide)
  have ne_1_5 : a_NOT_IN ≠ a_GTE := Fld.ne O_a_NOT_IN O_a_GTE (by decide)
  have ne_1_6 : a_NOT_IN ≠ a_LT := Fld.ne O_a_NOT_IN O_a_LT (by decide)
  have ne_1_7 : a_NOT_IN ≠ a_LTE := Fld.ne O_a_NOT_IN O_a_LTE (by decide)
  have ne_2_4 : a_EXISTS ≠ a_GT := Fld.ne O_a_EXISTS O_a_GT (by decide)
  have ne_2_5 : a_EXISTS ≠ a_GTE := Fld.ne O_a_EXISTS O_a_GTE (by decide)
  have ne_2_6 : a_EXISTS ≠ a_LT := Fld.ne O_a_EXISTS O_a_LT (by decide)
  have ne_2_7 : a_EXISTS ≠ a_LTE := Fld.ne O_a_EXISTS O_a_LTE (by decide)
  have ne_3_4 : a_DOES_NOT_EXIST ≠ a_GT := Fld.ne O_a_DOES_NOT_EXIST O_a_GT (by decide)
  have ne_3_5 : a_DOES_NOT_EXIST ≠ a_GTE := Fld.ne O_a_DOES_NOT_EXIST O_a_GTE (by decide)
  have ne_3_6 : a_DOES_NOT_EXIST ≠ a_LT := Fld.ne O_a_DOES_NOT_EXIST O_a_LT (by decide)
  have ne_3_7 : a_DOES_NOT_EXIST ≠ a_LTE := Fld.ne O_a_DOES_NOT_EXIST O_a_LTE (by decide)
  have ne_4_5 : a_GT ≠ a_GTE := Fld.ne O_a_GT O_a_GTE (by decide)
  have ne_4_6 : a_GT ≠ a_LT := Fld.ne O_a_GT O_a_LT (by decide)
  have ne_4_7 : a_GT ≠ a_LTE := Fld.ne O_a_GT O_a_LTE (by decide)
  have ne_5_4 : a_GTE ≠ a_GT := Fld.ne O_a_GTE O_a_GT (by decide)
  have ne_5_6 : a_GTE ≠ a_LT := Fld.ne O_a_GTE O_a_LT (by decide)
  have ne_5_7 : a_GTE ≠ a_LTE := Fld.ne O_a_GTE O_a_LTE (by decide)
  have ne_6_4 : a_LT ≠ a_GT := Fld.ne O_a_LT O_a_GT (by decide)
  have ne_6_5 : a_LT ≠ a_GTE := Fld.ne O_a_LT O_a_GTE (by decide)
  have ne_6_7 : a_LT ≠ a_LTE := Fld.ne O_a_LT O_a_LTE (by decide)
  have ne_7_4 : a_LTE ≠ a_GT := Fld.ne O_a_LTE O_a_GT (by decide)
  have ne_7_5 : a_LTE ≠ a_GTE := Fld.ne O_a_LTE O_a_GTE (by decide)
  have ne_7_6 : a_LTE ≠ a_LT := Fld.ne O_a_LTE O_a_LT (by decide)
  obtain ⟨r, q, E_r, hp, hq, he⟩ : ∃ (r : Addr) (q : Int32), Exa s s.heap r "com/example/admit/admit/core/Operator" ∧ own_pick (x0 &&& 7) a_IN a_NOT_IN a_EXISTS a_DOES_NOT_EXIST a_GT a_GTE a_LT a_LTE = r ∧ own_num r a_GT a_GTE a_LT a_LTE = q ∧ own_exp (x0 &&& 7) = q := by
    rcases own_k x0 with hk | hk | hk | hk | hk | hk | hk | hk <;> rw [hk]
    · exact ⟨a_IN, 0, E_a_IN, by simp [own_pick], by simp [own_num, ne_0_4, ne_0_5, ne_0_6, ne_0_7], by decide⟩
    · exact ⟨a_NOT_IN, 0, E_a_NOT_IN, by simp [own_pick], by simp [own_num, ne_1_4, ne_1_5, ne_1_6, ne_1_7], by decide⟩
    · exact ⟨a_EXISTS, 0, E_a_EXISTS, by simp [own_pick], by simp [own_num, ne_2_4, ne_2_5, ne_2_6, ne_2_7], by decide⟩
    · exact ⟨a_DOES_NOT_EXIST, 0, E_a_DOES_NOT_EXIST, by simp [own_pick], by simp [own_num, ne_3_4, ne_3_5, ne_3_6, ne_3_7], by decide⟩
    · exact ⟨a_GT, 1, E_a_GT, by simp [own_pick], by simp [own_num, ne_4_5, ne_4_6, ne_4_7], by decide⟩
    · exact ⟨a_GTE, 1, E_a_GTE, by simp [own_pick], by simp [own_num, ne_5_4, ne_5_6, ne_5_7], by decide⟩
    · exact ⟨a_LT, 1, E_a_LT, by simp [own_pick], by simp [own_num, ne_6_4, ne_6_5, ne_6_7], by decide⟩
    · exact ⟨a_LTE, 1, E_a_LTE, by simp [own_pick], by simp [own_num, ne_7_4, ne_7_5, ne_7_6], by decide⟩
  obtain ⟨n, o, h1, h2, h3, _, L, rfl, ⟨rfl, N⟩, hq⟩ := rm_0 l s _ hw tables_1 x0 a_IN a_NOT_IN a_EXISTS a_DOES_NOT_EXIST a_GT a_GTE a_LT a_LTE r q s.heap s.heap.size (Nat.le_refl _) S_a_IN S_a_NOT_IN S_a_EXISTS S_a_DOES_NOT_EXIST S_a_GT S_a_GTE S_a_LT S_a_LTE E_r hp hq he p e ha hc hk s m _ below hf ((Spec.applies_iff_loose hf).mp happ).1 ⟨rfl, State.Warmed39.refl s, rfl⟩ trivial
  refine ⟨n, _, h1, h2, h3, hpost _ _ _ _ _ _ ⟨Cond.after_iff.mpr rfl, Cond.after_iff.mpr (eq_i res_at (Term.int_eval (1)) rfl), trivial⟩ ⟨hq.1, hq.2.1, (hq.2.2.sift fun y hy => Or.inr (N y hy)).mono (by decide) (by decide)⟩⟩
theorem main_1_1 : Claimed_1_1 := comes_1 fun _ _ _ _ _ _ h hF => ⟨h.1, hF⟩
theorem main_1_2 : Claimed_1_2 := comes_1 fun _ _ _ _ _ _ h hF => ⟨h.2.1, hF⟩
end Jvm.Pilot.@@N@@
namespace Jvm.Pilot.@@N@@
open Jvm Jvm.ClassFile Sem Op Lib Jvm.Free Jvm.Stand Jvm.Pilot.@@N@@.Jvm.D
/-! MADE BY PROGRAM (witnessworld.py) out of the Statement's table words and the real class files: 12 classes; the members and pool entries that the words name. The judged class is class 1, her method 2. -/
namespace start1
open Jvm.ClassFile
def u (s : String) : CpInfo := .utf8 (stringToUtf16 s)
/-- a pool by its gaps: so many unusable entries, then the entry; so many at the end -/
def gap : Nat → List CpInfo → List CpInfo
  | 0, r => r
  | n + 1, r => .unusable :: gap n r
def poolList (es : List (Nat × CpInfo)) (last : Nat) : List CpInfo := es.foldr (fun e r => gap e.1 (e.2 :: r)) (gap last [])
def pool (es : List (Nat × CpInfo)) (last : Nat) : Array CpInfo := ⟨poolList es last⟩
def fileOf (pool : Array CpInfo) (this : Nat) (attrs : Array Attribute := #[]) (ms : Array MethodInfo := #[]) (fl : Nat := 33) (sup : Nat := 0) (ifs : Array Nat := #[]) (fds : Array FieldInfo := #[]) : ClassFile where
  minorVersion := 0
  majorVersion := 65
  constantPool := pool
  accessFlags := fl
  thisClass := this
  superClass := sup
  interfaces := ifs
  fields := fds
  methods := ms
  attributes := attrs
def plain (name : String) (sup : Option ClassId) : Class where
  name := name
  kind := .ordinary
  loader := none
  accessFlags := 33
  super := sup
  interfaces := #[]
  cf := none
  fields := #[]
  methods := #[]
  instanceTypes := #[]
  staticTypes := #[]
  resolved := #[]
  callSites := []
  init := .initialized
  statics := none
  mirror := none

def pool0 : Array CpInfo := pool [(5, u "<init>"), (0, u "()V"), (1, .class_ 10), (1, u "java/lang/Object")] 113

def k0m0 : Method := { name := "<init>", desc := "()V", sig := { parameters := [], returnType := none }, accessFlags := 1, code := none }
/-- java/lang/Object -/
def k0 : Class := { plain "java/lang/Object" none with
  accessFlags := 33
  interfaces := #[]
  cf := some (fileOf pool0 8 #[] #[{ accessFlags := 1, nameIndex := 5, descriptorIndex := 6, attributes := #[] }] 33 0 #[] #[])
  fields := #[]
  methods := #[k0m0]
  instanceTypes := #[]
  staticTypes := #[]
  resolved := Array.replicate 124 none
  statics := none }

def pool1 : Array CpInfo := pool [(2, .class_ 4), (1, u "java/lang/Object"), (0, u "<init>"), (0, u "()V"), (0, .fieldref 8 9), (0, .class_ 10), (0, .nameAndType 11 12), (0, u "com/example/admit/admit/core/Operator"), (0, u "IN"), (0, u "Lcom/example/admit/admit/core/Operator;"), (0, .fieldref 8 14), (0, .nameAndType 15 12), (0, u "NOT_IN"), (0, .fieldref 8 17), (0, .nameAndType 18 12), (0, u "EXISTS"), (0, .fieldref 8 20), (0, .nameAndType 21 12), (0, u "DOES_NOT_EXIST"), (0, .fieldref 8 23), (0, .nameAndType 24 12), (0, u "GT"), (0, .fieldref 8 26), (0, .nameAndType 27 12), (0, u "GTE"), (0, .fieldref 8 29), (0, .nameAndType 30 12), (0, u "LT"), (0, .fieldref 8 32), (0, .nameAndType 33 12), (0, u "LTE"), (0, .methodref 35 36), (0, .class_ 37), (0, .nameAndType 38 39), (0, u "com/example/admit/admit/core/OperatorNumericPinLaw"), (0, u "pick"), (0, u "(I)Lcom/example/admit/admit/core/Operator;"), (0, .methodref 8 41), (0, .nameAndType 42 43), (0, u "numeric"), (0, u "()Z"), (3, u "law"), (0, u "(I)Z")] 2

def k1m0 : Method := { name := "<init>", desc := "()V", sig := { parameters := [], returnType := none }, accessFlags := 2, code := none }
def k1c1 : Code := { maxStack := 2, maxLocals := 1, code := method_2_code, exceptionTable := #[], attributes := #[] }
def k1m1 : Method := { name := "pick", desc := "(I)Lcom/example/admit/admit/core/Operator;", sig := { parameters := [.int], returnType := some (.object "com/example/admit/admit/core/Operator") }, accessFlags := 10, code := some k1c1 }
def k1c2 : Code := { maxStack := 2, maxLocals := 4, code := code, exceptionTable := #[], attributes := #[] }
def k1m2 : Method := { name := "law", desc := "(I)Z", sig := { parameters := [.int], returnType := some .boolean }, accessFlags := 9, code := some k1c2 }
/-- com/example/admit/admit/core/OperatorNumericPinLaw -/
def k1 : Class := { plain "com/example/admit/admit/core/OperatorNumericPinLaw" (some 0) with
  accessFlags := 49
  interfaces := #[]
  cf := some (fileOf pool1 35 #[] #[{ accessFlags := 2, nameIndex := 5, descriptorIndex := 6, attributes := #[] }, { accessFlags := 10, nameIndex := 38, descriptorIndex := 39, attributes := #[] }, { accessFlags := 9, nameIndex := 47, descriptorIndex := 48, attributes := #[] }] 49 2 #[] #[])
  fields := #[]
  methods := #[k1m0, k1m1, k1m2]
  instanceTypes := #[]
  staticTypes := #[]
  resolved := Array.replicate 51 none
  statics := none }

def pool2 : Array CpInfo := pool [(1, .class_ 2), (0, u "java/lang/constant/Constable"), (0, .class_ 4), (0, u "java/lang/Object")] 6

/-- java/lang/constant/Constable -/
def k2 : Class := { plain "java/lang/constant/Constable" (some 0) with
  accessFlags := 1537
  interfaces := #[]
  cf := some (fileOf pool2 1 #[] #[] 1537 3 #[] #[])
  fields := #[]
  methods := #[]
  instanceTypes := #[]
  staticTypes := #[]
  resolved := Array.replicate 11 none
  statics := none }

def pool3 : Array CpInfo := pool [(1, .class_ 2), (0, u "java/lang/Comparable"), (0, .class_ 4), (0, u "java/lang/Object")] 7

/-- java/lang/Comparable -/
def k3 : Class := { plain "java/lang/Comparable" (some 0) with
  accessFlags := 1537
  interfaces := #[]
  cf := some (fileOf pool3 1 #[] #[] 1537 3 #[] #[])
  fields := #[]
  methods := #[]
  instanceTypes := #[]
  staticTypes := #[]
  resolved := Array.replicate 12 none
  statics := none }

def pool4 : Array CpInfo := pool [(1, .class_ 2), (0, u "java/io/Serializable"), (0, .class_ 4), (0, u "java/lang/Object")] 2

/-- java/io/Serializable -/
def k4 : Class := { plain "java/io/Serializable" (some 0) with
  accessFlags := 1537
  interfaces := #[]
  cf := some (fileOf pool4 1 #[] #[] 1537 3 #[] #[])
  fields := #[]
  methods := #[]
  instanceTypes := #[]
  staticTypes := #[]
  resolved := Array.replicate 7 none
  statics := none }

def pool5 : Array CpInfo := pool [(2, .class_ 4), (1, u "java/lang/Enum"), (0, u "name"), (0, u "Ljava/lang/String;"), (2, u "ordinal"), (0, u "I"), (1, .class_ 14), (1, u "java/lang/Object"), (4, u "hash"), (86, .class_ 108), (1, u "java/lang/Enum$EnumDesc"), (2, .class_ 112), (0, u "java/lang/constant/Constable"), (0, .class_ 114), (0, u "java/lang/Comparable"), (0, .class_ 116), (0, u "java/io/Serializable")] 87

/-- java/lang/Enum -/
def k5 : Class := { plain "java/lang/Enum" (some 0) with
  accessFlags := 1057
  interfaces := #[2, 3, 4]
  cf := some (fileOf pool5 2 #[.nestMembers #[106]] #[] 1057 12 #[111, 113, 115] #[{ accessFlags := 18, nameIndex := 5, descriptorIndex := 6, attributes := #[] }, { accessFlags := 18, nameIndex := 9, descriptorIndex := 10, attributes := #[] }, { accessFlags := 2, nameIndex := 19, descriptorIndex := 10, attributes := #[] }])
  fields := #[{ name := "name", type := (.object "java/lang/String"), accessFlags := 18, slot := 0, constantValue := 0 }, { name := "ordinal", type := .int, accessFlags := 18, slot := 1, constantValue := 0 }, { name := "hash", type := .int, accessFlags := 2, slot := 2, constantValue := 0 }]
  methods := #[]
  instanceTypes := #[(.object "java/lang/String"), .int, .int]
  staticTypes := #[]
  resolved := Array.replicate 204 none
  statics := none }

def pool6 : Array CpInfo := pool [(1, .class_ 2), (0, u "com/example/admit/admit/core/Operator"), (2, u "IN"), (0, u "Lcom/example/admit/admit/core/Operator;"), (2, u "NOT_IN"), (2, u "EXISTS"), (2, u "DOES_NOT_EXIST"), (0, .fieldref 1 17), (0, .nameAndType 18 6), (0, u "GT"), (0, .fieldref 1 20), (0, .nameAndType 21 6), (0, u "GTE"), (0, .fieldref 1 23), (0, .nameAndType 24 6), (0, u "LT"), (0, .fieldref 1 26), (0, .nameAndType 27 6), (0, u "LTE"), (2, u "$VALUES"), (0, u "[Lcom/example/admit/admit/core/Operator;"), (6, .class_ 40), (1, u "java/lang/Enum"), (8, u "wireName"), (0, u "Ljava/lang/String;"), (57, u "numeric"), (0, u "()Z")] 20

def k6c0 : Code := { maxStack := 2, maxLocals := 1, code := prog_25_method_6_code, exceptionTable := #[], attributes := #[] }
def k6m0 : Method := { name := "numeric", desc := "()Z", sig := { parameters := [], returnType := some .boolean }, accessFlags := 1, code := some k6c0 }
/-- com/example/admit/admit/core/Operator -/
def k6 : Class := { plain "com/example/admit/admit/core/Operator" (some 5) with
  accessFlags := 16433
  interfaces := #[]
  cf := some (fileOf pool6 1 #[] #[{ accessFlags := 1, nameIndex := 108, descriptorIndex := 109, attributes := #[] }] 16433 38 #[] #[{ accessFlags := 16409, nameIndex := 5, descriptorIndex := 6, attributes := #[] }, { accessFlags := 16409, nameIndex := 9, descriptorIndex := 6, attributes := #[] }, { accessFlags := 16409, nameIndex := 12, descriptorIndex := 6, attributes := #[] }, { accessFlags := 16409, nameIndex := 15, descriptorIndex := 6, attributes := #[] }, { accessFlags := 16409, nameIndex := 18, descriptorIndex := 6, attributes := #[] }, { accessFlags := 16409, nameIndex := 21, descriptorIndex := 6, attributes := #[] }, { accessFlags := 16409, nameIndex := 24, descriptorIndex := 6, attributes := #[] }, { accessFlags := 16409, nameIndex := 27, descriptorIndex := 6, attributes := #[] }, { accessFlags := 18, nameIndex := 49, descriptorIndex := 50, attributes := #[] }, { accessFlags := 4122, nameIndex := 30, descriptorIndex := 31, attributes := #[] }])
  fields := #[{ name := "IN", type := (.object "com/example/admit/admit/core/Operator"), accessFlags := 16409, slot := 0, constantValue := 0 }, { name := "NOT_IN", type := (.object "com/example/admit/admit/core/Operator"), accessFlags := 16409, slot := 1, constantValue := 0 }, { name := "EXISTS", type := (.object "com/example/admit/admit/core/Operator"), accessFlags := 16409, slot := 2, constantValue := 0 }, { name := "DOES_NOT_EXIST", type := (.object "com/example/admit/admit/core/Operator"), accessFlags := 16409, slot := 3, constantValue := 0 }, { name := "GT", type := (.object "com/example/admit/admit/core/Operator"), accessFlags := 16409, slot := 4, constantValue := 0 }, { name := "GTE", type := (.object "com/example/admit/admit/core/Operator"), accessFlags := 16409, slot := 5, constantValue := 0 }, { name := "LT", type := (.object "com/example/admit/admit/core/Operator"), accessFlags := 16409, slot := 6, constantValue := 0 }, { name := "LTE", type := (.object "com/example/admit/admit/core/Operator"), accessFlags := 16409, slot := 7, constantValue := 0 }, { name := "wireName", type := (.object "java/lang/String"), accessFlags := 18, slot := 3, constantValue := 0 }, { name := "$VALUES", type := (.array (.object "com/example/admit/admit/core/Operator")), accessFlags := 4122, slot := 8, constantValue := 0 }]
  methods := #[k6m0]
  instanceTypes := #[(.object "java/lang/String"), .int, .int, (.object "java/lang/String")]
  staticTypes := #[(.object "com/example/admit/admit/core/Operator"), (.object "com/example/admit/admit/core/Operator"), (.object "com/example/admit/admit/core/Operator"), (.object "com/example/admit/admit/core/Operator"), (.object "com/example/admit/admit/core/Operator"), (.object "com/example/admit/admit/core/Operator"), (.object "com/example/admit/admit/core/Operator"), (.object "com/example/admit/admit/core/Operator"), (.array (.object "com/example/admit/admit/core/Operator"))]
  resolved := Array.replicate 130 none
  statics := some 0 }

def pool7 : Array CpInfo := pool [(1, u "java/lang/Cloneable"), (0, .class_ 1), (0, u "java/lang/Object"), (0, .class_ 3)] 3

/-- java/lang/Cloneable -/
def k7 : Class := { plain "java/lang/Cloneable" (some 0) with
  accessFlags := 1537
  interfaces := #[]
  cf := some (fileOf pool7 2 #[] #[] 1537 4 #[] #[])
  fields := #[]
  methods := #[]
  instanceTypes := #[]
  staticTypes := #[]
  resolved := Array.replicate 8 none
  statics := none }

/-- the primitive byte -/
def k8 : Class := { plain "byte" none with kind := .primitive 'B', accessFlags := 0x411 }
/-- [B -/
def k9 : Class := { plain "[B" (some 0) with kind := .array 8 .byte, interfaces := #[7, 4], accessFlags := 1041 }

/-- the primitive int -/
def k10 : Class := { plain "int" none with kind := .primitive 'I', accessFlags := 0x411 }
/-- [I -/
def k11 : Class := { plain "[I" (some 0) with kind := .array 10 .int, interfaces := #[7, 4], accessFlags := 1041 }

def heap : Heap := #[{ cls := 6, slots := #[.ref 1, .ref 8, .ref 7, .ref 6, .ref 2, .ref 3, .ref 4, .ref 5, .null], vm := .statics 6 },
  { cls := 6, slots := #[.null, .int 0, .int 0, .null], vm := .none },
  { cls := 6, slots := #[.null, .int 4, .int 0, .null], vm := .none },
  { cls := 6, slots := #[.null, .int 5, .int 0, .null], vm := .none },
  { cls := 6, slots := #[.null, .int 6, .int 0, .null], vm := .none },
  { cls := 6, slots := #[.null, .int 7, .int 0, .null], vm := .none },
  { cls := 6, slots := #[.null, .int 3, .int 0, .null], vm := .none },
  { cls := 6, slots := #[.null, .int 2, .int 0, .null], vm := .none },
  { cls := 6, slots := #[.null, .int 1, .int 0, .null], vm := .none }]
def classes : Array Class := #[k0, k1, k2, k3, k4, k5, k6, k7, k8, k9, k10, k11]
def interned : List (Array UInt16 × Addr) := []
def slotsUsed : Nat := 41
def theMethod : MethodId := ⟨1, 2⟩
def args0 : Array Value := #[.int 5]
def aboutOver (below : List Frame) : State where
  vm := { classes := classes, interned := interned.toArray }
  heap := heap
  slotsUsed := slotsUsed
  threads := #[{ frames := .invoking theMethod args0 :: below }]
def below0 : List Frame := [.native { method := ⟨0, 0⟩, args := #[] }]
def about1 : State := aboutOver below0
def p0 : Program := .bare "" "" ""
def e0 : Env := launch0.env 0 0 0
theorem w_frames : about1.frames = Frame.invoking theMethod args0 :: below0 := rfl
set_option maxRecDepth 65536 in
theorem w_args : argsFit about1.vm theMethod args0 = true := by decide +kernel
set_option maxRecDepth 65536 in
theorem w_heap : heapFits about1 = true := by decide +kernel
set_option maxRecDepth 65536 in
theorem w_runnable : about1.curStatus? = some .runnable := by decide +kernel
set_option maxRecDepth 65536 in
theorem w_alone : about1.alone = true := by decide +kernel
set_option maxRecDepth 65536 in
theorem w_named : about1.methodNamed? x = some theMethod := by decide +kernel
set_option maxRecDepth 65536 in
theorem w_hears : about1.hears theMethod below0 = true := by decide +kernel
set_option maxRecDepth 65536 in
theorem w_ripe : about1.ripe theMethod args0 below0 = true := by decide +kernel
theorem w_running : about1.status = .running := rfl
set_option maxRecDepth 65536 in
theorem w_room : about1.hasRoom e0.platform room_1 = true :=
  launch0.hasRoom_least _ room_1 (by decide +kernel) (by decide +kernel) (by decide +kernel) (by decide +kernel) (by decide +kernel) (by decide +kernel)
theorem allAtoms_all (ts : List Jvm.Cond) (a : Array Jvm.Value) (st : Jvm.State) : (allAtoms ts).before a st = ts.all (fun c => c.before a st) := by
  induction ts with
  | nil => rfl
  | cons c t ih =>
    show (Jvm.Cond.and c (allAtoms t)).before a st = _
    rw [Jvm.Cond.before_and, ih, List.all_cons]
def words1 : List Jvm.Cond := Jvm.Cond.code x code maxLocals ret :: tables_1
/-- a 'code' word, met by the world's own term for the bytes: nothing is compared byte by byte -/
theorem code_word {y : MethodName} {bytes : ByteArray} {mx : Nat} {rt : Option FieldType} {a : Array Value} {s : State} {m : MethodId} {meth : Method} {c : Code} (h1 : s.methodNamed? y = some m) (h2 : s.vm.method? m = some meth) (h3 : meth.code = some c) (h4 : c.code = bytes)
    (h5 : (c.maxLocals == mx && c.exceptionTable.isEmpty && decide (c.maxStack ≤ mostOperands) && decide (meth.sig.returnType = rt) && !meth.locks && decide (parseMethodDescriptor y.desc = some meth.sig)) = true) : (Jvm.Cond.code y bytes mx rt).before a s = true := by
  simp only [Bool.and_eq_true, beq_iff_eq, Bool.not_eq_true', decide_eq_true_eq] at h5
  obtain ⟨⟨⟨⟨⟨g1, g2⟩, g3⟩, g4⟩, g5⟩, g6⟩ := h5
  simp [Cond.before, Cond.holds, Cond.value, h1, h2, h3, h4, g1, g2, g3, g4, g5, g6]
def isCode : Jvm.Cond → Bool
  | .code _ _ _ _ => true
  | _ => false
theorem all_split {L : List Jvm.Cond} {P : Jvm.Cond → Bool} (h1 : L.all (fun c => isCode c || P c) = true) (h2 : ∀ c ∈ L.filter isCode, P c = true) : L.all P = true := by
  refine List.all_eq_true.mpr fun c hc => ?_
  have h := List.all_eq_true.mp h1 c hc
  rcases Bool.eq_false_or_eq_true (isCode c) with hi | hi
  · exact h2 c (List.mem_filter.mpr ⟨hc, hi⟩)
  · simpa [hi] using h
set_option maxRecDepth 65536 in
theorem w_c0 : (Jvm.Cond.code x code maxLocals ret).before args0 about1 = true := code_word (m := ⟨1, 2⟩) (meth := k1m2) (c := k1c2) (by decide +kernel) rfl rfl rfl (by decide +kernel)
set_option maxRecDepth 65536 in
theorem w_c1 : (Jvm.Cond.code ({ cls := "com/example/admit/admit/core/OperatorNumericPinLaw", name := "pick", desc := "(I)Lcom/example/admit/admit/core/Operator;" } : Jvm.MethodName) method_2_code (1 : Nat) (Option.some (Jvm.ClassFile.FieldType.object "com/example/admit/admit/core/Operator"))).before args0 about1 = true := code_word (m := ⟨1, 1⟩) (meth := k1m1) (c := k1c1) (by decide +kernel) rfl rfl rfl (by decide +kernel)
set_option maxRecDepth 65536 in
theorem w_c2 : (Jvm.Cond.code ({ cls := "com/example/admit/admit/core/Operator", name := "numeric", desc := "()Z" } : Jvm.MethodName) prog_25_method_6_code (1 : Nat) (Option.some Jvm.ClassFile.FieldType.boolean)).before args0 about1 = true := code_word (m := ⟨6, 0⟩) (meth := k6m0) (c := k6c0) (by decide +kernel) rfl rfl rfl (by decide +kernel)
def codes1 : List Jvm.Cond := [Jvm.Cond.code x code maxLocals ret, Jvm.Cond.code ({ cls := "com/example/admit/admit/core/OperatorNumericPinLaw", name := "pick", desc := "(I)Lcom/example/admit/admit/core/Operator;" } : Jvm.MethodName) method_2_code (1 : Nat) (Option.some (Jvm.ClassFile.FieldType.object "com/example/admit/admit/core/Operator")), Jvm.Cond.code ({ cls := "com/example/admit/admit/core/Operator", name := "numeric", desc := "()Z" } : Jvm.MethodName) prog_25_method_6_code (1 : Nat) (Option.some Jvm.ClassFile.FieldType.boolean)]
set_option maxRecDepth 65536 in
theorem codes_eq : words1.filter isCode = codes1 := rfl
theorem w_codes : ∀ c ∈ words1.filter isCode, c.before args0 about1 = true := by
  rw [codes_eq]
  intro c hc
  simp only [codes1, List.mem_cons, List.not_mem_nil, or_false] at hc
  rcases hc with rfl | rfl | rfl
  · exact w_c0
  · exact w_c1
  · exact w_c2
set_option maxRecDepth 65536 in
theorem w_t1 : (words1.take 24).all (fun c => isCode c || c.before args0 about1) = true := by decide +kernel
set_option maxRecDepth 65536 in
theorem w_t2 : (words1.drop 24).all (fun c => isCode c || c.before args0 about1) = true := by decide +kernel
theorem w_tables : (allAtoms (Jvm.Cond.code x code maxLocals ret :: tables_1)).before args0 about1 = true := by
  rw [allAtoms_all]
  show words1.all (fun c => c.before args0 about1) = true
  refine all_split ?_ w_codes
  rw [← List.take_append_drop 24 words1, List.all_append, w_t1, w_t2]
  rfl
set_option maxRecDepth 65536 in
theorem w_case : (Jvm.Cond.and given_1 narrow_1).before args0 about1 = true := by decide +kernel
theorem w_applies : (headSpec (Jvm.Cond.code x code maxLocals ret :: tables_1) room_1).applies x e0.platform about1 = true :=
  (Spec.applies_iff w_frames).mpr ⟨w_running, w_runnable, w_alone, w_named, w_hears, w_ripe, w_room, w_tables⟩
theorem atStart : AtStart classFile x code maxLocals ret World_1 tables_1 room_1 Calls_1 rest_1 Pre_1 launch0 p0 e0 about1 theMethod args0 below0 :=
  ⟨lists_1, trivial, launch0.admits_env _ _ _, launch0.least_env, fairChoices_fair.cas, fairChoices_fair.clock, w_frames, w_args, w_heap, w_applies, trivial, trivial, w_case⟩
end start1
theorem witness_1 : WitnessClaimed_1 := ⟨start1.p0, start1.e0, start1.about1, start1.theMethod, start1.args0, start1.below0, start1.atStart⟩
end Jvm.Pilot.@@N@@
