import JvmDerived
import JvmDerived.Pilot.@@N@@Statement
import JvmDerived.Pilot.@@N@@Code
set_option linter.unusedVariables false
set_option linter.unusedSimpArgs false
namespace Jvm.RoadKit
open Sem ClassFile Op Lib Jvm.Stand Jvm.Free Jvm.LawKit
section New
variable {p : Program} {l : Launch} {e : Env} {R : Room} {s : State} {m : MethodId} {args : Array Value} {below : List Frame} {meth : Method} {c : Code} {T : State} {locs : List Loc} {cells slots : Nat}
theorem retI (X : Stand p l e R s m args below meth c T locs cells slots) (hx : p.tables.exec = Jvm.exec) {pc : Nat} {Ls : Array Slot} {z : Int32} {rest : List Value} (hret : meth.sig.returnType = some .int) (hd : decode c.code pc = .ok (.ireturn, 1)) {fs : List Frame}
    (hl : ∀ (f : JFrame) (acts : List Action), f.method = m → f.locked = none → f.entered = [] → (doReturn e (T.setTop f) acts (some (.int z))).1 = T.setFrames fs) : Steps p.tables e below (T.setTop (mkF m pc Ls (.int z :: rest))) (T.setFrames fs) := by
  have hm' : T.vm.method? m = some meth := X.method'
  have hn : narrow .int (.int z) = .int z := rfl
  show Steps p.tables e below (T.setTop { method := m, pc := pc, locals := Ls, stack := _ :: rest, locked := none }) _
  jvm_step X.here [X.here.top, hx, hd, hm', hret, hn]
  first | (intro acts; rw [hl _ acts rfl rfl rfl]) | rw [hl _ _ rfl rfl rfl]
  exact Steps.refl _
end New
variable {Z : State} {h h' : Heap} {C n d : String} {v w : Value} {ws : List Addr}
theorem own_staKeep (F : Sta Z h C n d v) (K : Keep h h' ws) (q : ∀ x ∈ ws, ∀ c : Cell, h[x]? = some c → c.vm.isStatics = false) : Sta Z h' C n d v := by
  obtain ⟨cf, i, k, f, st, cell, h1, h2, h3, h4, h5, h6, h7⟩ := F
  refine ⟨cf, i, k, f, st, cell, h1, h2, h3, h4, K.2.1 _ _ h5 (fun r => ?_), h6, h7⟩
  rw [q _ r _ h5] at h6; cases h6
theorem own_staNew {n0 : Nat} (F : Sta Z h C n d v) (K : Keep h h' ws) (hn : ∀ x ∈ ws, n0 ≤ x) (hs : ∀ (x : Addr) (c : Cell), h[x]? = some c → c.vm.isStatics = true → x < n0) : Sta Z h' C n d v := by
  obtain ⟨cf, i, k, f, st, cell, h1, h2, h3, h4, h5, h6, h7⟩ := F
  exact ⟨cf, i, k, f, st, cell, h1, h2, h3, h4, K.2.1 _ _ h5 (fun r => absurd (hs _ _ h5 h6) (Nat.not_lt.mpr (hn _ r))), h6, h7⟩
theorem own_fldI {args : Array Value} {s : State} {t : Term} {a : Addr} {C n d : String} {k : Int32} (ht : t.eval args s none [] s = some (.ref a)) (h : (Cond.eq (.field t C n d) (.int k)).value args s none s [] = some true) : Fld s s.heap a C n d (.int k) := Fld.start ((fld_at ht).symm.trans (eqv_i rfl h))
theorem own_fldR {args : Array Value} {s : State} {t u : Term} {a b : Addr} {C n d : String} (ht : t.eval args s none [] s = some (.ref a)) (hu : u.eval args s none [] s = some (.ref b)) (h : (Cond.eq (.field t C n d) u).value args s none s [] = some true) : Fld s s.heap a C n d (.ref b) := by
  obtain ⟨x, y, ex, ey, kx, ky⟩ := cmp_v (Or.inl h)
  have e1 : s.fieldOf? a C n d = some x := by rw [← fld_at ht]; exact ex
  cases hu.symm.trans ey
  have q : x = .ref b := by
    cases x <;> simp [Cond.value, ex, hu] at h ⊢
    exact h
  exact Fld.start (by rw [e1, q])
theorem own_staL {args : Array Value} {s : State} {C n d : String} {k : Int64} (h : (Cond.eq (.static C n d) (.long k)).value args s none s [] = some true) : (Term.static C n d).eval args s none [] s = some (.long k) := eqv_l rfl h
end Jvm.RoadKit
namespace Jvm.Pilot.@@N@@
open Jvm Jvm.ClassFile Sem Op Lib Jvm.Free Jvm.Stand Jvm.LawKit Jvm.RoadKit Bundle Jvm.Pilot.@@N@@.Jvm.D
theorem pd__I_Lcom_example_marginwright_marginwright_Rule_ : parseMethodDescriptor "(I)Lcom/example/marginwright/marginwright/Rule;" = some ⟨[.int], some (.object "com/example/marginwright/marginwright/Rule")⟩ := by decide +kernel
theorem pd___Z : parseMethodDescriptor "()Z" = some ⟨[], some .boolean⟩ := by decide +kernel
theorem own_k (x : Int32) : ((x &&& 2147483647) % 9) = 0 ∨ ((x &&& 2147483647) % 9) = 1 ∨ ((x &&& 2147483647) % 9) = 2 ∨ ((x &&& 2147483647) % 9) = 3 ∨ ((x &&& 2147483647) % 9) = 4 ∨ ((x &&& 2147483647) % 9) = 5 ∨ ((x &&& 2147483647) % 9) = 6 ∨ ((x &&& 2147483647) % 9) = 7 ∨ ((x &&& 2147483647) % 9) = 8 := by
  have h : (x &&& 2147483647).toInt = x.toInt % 2147483648 := c_mask x 2147483647 31 (by decide) (by decide)
  have h2 : ((x &&& 2147483647) % 9).toInt = (x &&& 2147483647).toInt % 9 := (c_irem (x &&& 2147483647) 9 9 (by rfl)).1 (by omega)
  have e : (((x &&& 2147483647) % 9)).toInt = 0 ∨ (((x &&& 2147483647) % 9)).toInt = 1 ∨ (((x &&& 2147483647) % 9)).toInt = 2 ∨ (((x &&& 2147483647) % 9)).toInt = 3 ∨ (((x &&& 2147483647) % 9)).toInt = 4 ∨ (((x &&& 2147483647) % 9)).toInt = 5 ∨ (((x &&& 2147483647) % 9)).toInt = 6 ∨ (((x &&& 2147483647) % 9)).toInt = 7 ∨ (((x &&& 2147483647) % 9)).toInt = 8 := by omega
  rcases e with e | e | e | e | e | e | e | e | e
  · exact (Or.inl (Int32.toInt_inj.mp (e.trans (by rfl))))
  · exact (Or.inr (Or.inl (Int32.toInt_inj.mp (e.trans (by rfl)))))
  · exact (Or.inr (Or.inr (Or.inl (Int32.toInt_inj.mp (e.trans (by rfl))))))
  · exact (Or.inr (Or.inr (Or.inr (Or.inl (Int32.toInt_inj.mp (e.trans (by rfl)))))))
  · exact (Or.inr (Or.inr (Or.inr (Or.inr (Or.inl (Int32.toInt_inj.mp (e.trans (by rfl))))))))
  · exact (Or.inr (Or.inr (Or.inr (Or.inr (Or.inr (Or.inl (Int32.toInt_inj.mp (e.trans (by rfl)))))))))
  · exact (Or.inr (Or.inr (Or.inr (Or.inr (Or.inr (Or.inr (Or.inl (Int32.toInt_inj.mp (e.trans (by rfl))))))))))
  · exact (Or.inr (Or.inr (Or.inr (Or.inr (Or.inr (Or.inr (Or.inr (Or.inl (Int32.toInt_inj.mp (e.trans (by rfl)))))))))))
  · exact (Or.inr (Or.inr (Or.inr (Or.inr (Or.inr (Or.inr (Or.inr (Or.inr (Int32.toInt_inj.mp (e.trans (by rfl)))))))))))
def own_pick (k : Int32) (b0 b1 b2 b3 b4 b5 b6 b7 b8 : Addr) : Addr := if k = 0 then b0 else if k = 1 then b1 else if k = 2 then b2 else if k = 3 then b3 else if k = 4 then b4 else if k = 5 then b5 else if k = 6 then b6 else if k = 7 then b7 else b8
def own_frac (u f : Addr) : Int32 := if u = f then 1 else 0
def own_exp (k : Int32) : Int32 := if k = 6 then 0 else if k = 7 then 0 else 1
theorem d1_0 : decode method_3_code 0 = .ok (.iload_n 0, 1) := by decide +kernel
theorem d1_1 : decode method_3_code 1 = .ok (.ifCond .ne 7, 3) := by decide +kernel
theorem d1_4 : decode method_3_code 4 = .ok (.getstatic 20, 3) := by decide +kernel
theorem d1_7 : decode method_3_code 7 = .ok (.areturn, 1) := by decide +kernel
theorem d1_8 : decode method_3_code 8 = .ok (.iload_n 0, 1) := by decide +kernel
theorem d1_9 : decode method_3_code 9 = .ok (.iconst 1, 1) := by decide +kernel
theorem d1_10 : decode method_3_code 10 = .ok (.if_icmp .ne 7, 3) := by decide +kernel
theorem d1_13 : decode method_3_code 13 = .ok (.getstatic 24, 3) := by decide +kernel
theorem d1_16 : decode method_3_code 16 = .ok (.areturn, 1) := by decide +kernel
theorem d1_17 : decode method_3_code 17 = .ok (.iload_n 0, 1) := by decide +kernel
theorem d1_18 : decode method_3_code 18 = .ok (.iconst 2, 1) := by decide +kernel
theorem d1_19 : decode method_3_code 19 = .ok (.if_icmp .ne 7, 3) := by decide +kernel
theorem d1_22 : decode method_3_code 22 = .ok (.getstatic 27, 3) := by decide +kernel
theorem d1_25 : decode method_3_code 25 = .ok (.areturn, 1) := by decide +kernel
theorem d1_26 : decode method_3_code 26 = .ok (.iload_n 0, 1) := by decide +kernel
theorem d1_27 : decode method_3_code 27 = .ok (.iconst 3, 1) := by decide +kernel
theorem d1_28 : decode method_3_code 28 = .ok (.if_icmp .ne 7, 3) := by decide +kernel
theorem d1_31 : decode method_3_code 31 = .ok (.getstatic 30, 3) := by decide +kernel
theorem d1_34 : decode method_3_code 34 = .ok (.areturn, 1) := by decide +kernel
theorem d1_35 : decode method_3_code 35 = .ok (.iload_n 0, 1) := by decide +kernel
theorem d1_36 : decode method_3_code 36 = .ok (.iconst 4, 1) := by decide +kernel
theorem d1_37 : decode method_3_code 37 = .ok (.if_icmp .ne 7, 3) := by decide +kernel
theorem d1_40 : decode method_3_code 40 = .ok (.getstatic 33, 3) := by decide +kernel
theorem d1_43 : decode method_3_code 43 = .ok (.areturn, 1) := by decide +kernel
theorem d1_44 : decode method_3_code 44 = .ok (.iload_n 0, 1) := by decide +kernel
theorem d1_45 : decode method_3_code 45 = .ok (.iconst 5, 1) := by decide +kernel
theorem d1_46 : decode method_3_code 46 = .ok (.if_icmp .ne 7, 3) := by decide +kernel
theorem d1_49 : decode method_3_code 49 = .ok (.getstatic 36, 3) := by decide +kernel
theorem d1_52 : decode method_3_code 52 = .ok (.areturn, 1) := by decide +kernel
theorem d1_53 : decode method_3_code 53 = .ok (.iload_n 0, 1) := by decide +kernel
theorem d1_54 : decode method_3_code 54 = .ok (.bipush 6, 2) := by decide +kernel
theorem d1_56 : decode method_3_code 56 = .ok (.if_icmp .ne 7, 3) := by decide +kernel
theorem d1_59 : decode method_3_code 59 = .ok (.getstatic 39, 3) := by decide +kernel
theorem d1_62 : decode method_3_code 62 = .ok (.areturn, 1) := by decide +kernel
theorem d1_63 : decode method_3_code 63 = .ok (.iload_n 0, 1) := by decide +kernel
theorem d1_64 : decode method_3_code 64 = .ok (.bipush 7, 2) := by decide +kernel
theorem d1_66 : decode method_3_code 66 = .ok (.if_icmp .ne 7, 3) := by decide +kernel
theorem d1_69 : decode method_3_code 69 = .ok (.getstatic 42, 3) := by decide +kernel
theorem d1_72 : decode method_3_code 72 = .ok (.areturn, 1) := by decide +kernel
theorem d1_73 : decode method_3_code 73 = .ok (.getstatic 45, 3) := by decide +kernel
theorem d1_76 : decode method_3_code 76 = .ok (.areturn, 1) := by decide +kernel
theorem ef_1 (m : MethodId) (x0 : Int32) : entryFrame m #[(.int x0)] 1 = mkF m 0 #[.val (.int x0)] [] := by first | (simp [entryFrame, mkF, argsToLocals, Value.category]; done) | rfl
theorem pn_com_example_marginwright_marginwright_RuleIsFractionPinLaw : plainName "com/example/marginwright/marginwright/RuleIsFractionPinLaw" = true := by first | (simp [plainName, overriddenIn]; done) | decide +kernel
def Q_1 (Z : State) (p1 : Int32) (b0 b1 b2 b3 b4 b5 b6 b7 b8 r : Addr) (h0 : Heap) (n0 : Nat) (v : Option Value) (h : Heap) (L : List Loc) : Prop := v = some (.ref r) ∧ Fr n0 L ∧ h = h0
set_option maxRecDepth 65536 in
set_option maxHeartbeats 40000000 in
theorem rm_1 (l : Launch) (Z : State) (a0 : Array Value) (hw : ∀ d ∈ tables_1, d.before a0 Z = true) (ws : List Jvm.Cond) (p1 : Int32) (b0 b1 b2 b3 b4 b5 b6 b7 b8 r : Addr) (h0 : Heap) (n0 : Nat) (Z0 : n0 ≤ h0.size) (S_b0 : Sta Z h0 "com/example/marginwright/marginwright/Rule" "LOCK_LIMIT_ADD_FIRST" "Lcom/example/marginwright/marginwright/Rule;" (.ref b0)) (S_b1 : Sta Z h0 "com/example/marginwright/marginwright/Rule" "LOCK_LIMIT_ADD_SECOND" "Lcom/example/marginwright/marginwright/Rule;" (.ref b1)) (S_b2 : Sta Z h0 "com/example/marginwright/marginwright/Rule" "LOCK_MARGIN_ADD" "Lcom/example/marginwright/marginwright/Rule;" (.ref b2)) (S_b3 : Sta Z h0 "com/example/marginwright/marginwright/Rule" "REDUCTION_TIER_HIGH" "Lcom/example/marginwright/marginwright/Rule;" (.ref b3)) (S_b4 : Sta Z h0 "com/example/marginwright/marginwright/Rule" "REDUCTION_TIER_MID" "Lcom/example/marginwright/marginwright/Rule;" (.ref b4)) (S_b5 : Sta Z h0 "com/example/marginwright/marginwright/Rule" "REDUCTION_HEDGE" "Lcom/example/marginwright/marginwright/Rule;" (.ref b5)) (S_b6 : Sta Z h0 "com/example/marginwright/marginwright/Rule" "MINIMUM_RESERVE_MEMBER" "Lcom/example/marginwright/marginwright/Rule;" (.ref b6)) (S_b7 : Sta Z h0 "com/example/marginwright/marginwright/Rule" "MINIMUM_RESERVE_BROKER_MEMBER" "Lcom/example/marginwright/marginwright/Rule;" (.ref b7)) (S_b8 : Sta Z h0 "com/example/marginwright/marginwright/Rule" "LARGE_TRADER_REPORT_SHARE" "Lcom/example/marginwright/marginwright/Rule;" (.ref b8)) (hsp : own_pick p1 b0 b1 b2 b3 b4 b5 b6 b7 b8 = r) :
    MetFree l (⟨"com/example/marginwright/marginwright/RuleIsFractionPinLaw", "pick", "(I)Lcom/example/marginwright/marginwright/Rule;"⟩ : MethodName) (head1 (Jvm.Cond.code (⟨"com/example/marginwright/marginwright/RuleIsFractionPinLaw", "pick", "(I)Lcom/example/marginwright/marginwright/Rule;"⟩ : MethodName) method_3_code 1 (some (.object "com/example/marginwright/marginwright/Rule")) :: ws) ({ frames := 0, cells := 0, slots := 0, locals := 0 } : Room)) (fun a U => a = #[(.int p1)] ∧ Z.Warmed39 U.vm ∧ U.heap = h0) (fun _ _ _ _ _ => True) (fun _ U o U' => ∃ v L, o = .returned v ∧ Q_1 Z p1 b0 b1 b2 b3 b4 b5 b6 b7 b8 r h0 n0 v U'.heap L ∧ FrameEnd U o U' L ({ frames := 0, cells := 0, slots := 0, locals := 0 } : Room).cells ({ frames := 0, cells := 0, slots := 0, locals := 0 } : Room).slots) := by
  refine MetFree.of_bodySF (plainFor_of_name pn_com_example_marginwright_marginwright_RuleIsFractionPinLaw) hisR ?_
  intro p e s m args below meth c s₁ Bd hml0 hP hK
  obtain ⟨rfl, hZ, hh⟩ := hP
  have hx := Bd.exec
  have hby := Bd.bytes
  have hml : c.maxLocals = 1 := hml0
  have hown : s.vm.findClass "com/example/marginwright/marginwright/RuleIsFractionPinLaw" = some m.cls := findClass_of_methodNamed Bd.named
  have hnm := (name_of_methodNamed Bd.named Bd.method).1
  have X0 : Stand p l e ({ frames := 0, cells := 0, slots := 0, locals := 0 } : Room) s m #[(.int p1)] below meth c s₁ [] 0 0 := Stand.of_body Bd
  have e0 : s₁.heap = h0 := by rw [← hh, Bd.state]; rfl
  have N0 := Fr.nil n0
  have pw0 : ∀ t, Steps p.tables e below (s₁.setTop (mkF m 0 #[.val (.int p1)] [])) t → Steps p.tables e below (s₁.setTop (entryFrame m #[(.int p1)] 1)) t := fun t k => castTop (ef_1 m p1) k
  have K0 : Keep h0 h0 [] := Keep.refl h0 []
  have pw1 : ∀ t, Steps p.tables e below (s₁.setTop (mkF m 1 #[.val (.int p1)] [(.int p1)])) t → Steps p.tables e below (s₁.setTop (entryFrame m #[(.int p1)] 1)) t := by
    intro t k
    refine pw0 t ?_
    refine XS.iloadN X0.here hx rfl (hb hby d1_0) rfl ?_
    show Steps p.tables e below (s₁.setTop (mkF m 1 #[.val (.int p1)] [(.int p1)])) _
    exact k
  by_cases hc2 : p1 = (0 : Int32)
  · skip
    obtain ⟨T3, X3, e3, st3⟩ := getS2 X0 hx hZ hown (host := "") (Or.inl (hw _ (List.mem_of_getElem? (i := 5) rfl))) Via.refl e0 S_b0 (g := (mkF m 4 #[.val (.int p1)] [])) rfl (hb hby d1_4)
    obtain ⟨fs, hr, hrun, hended, hW, hsame⟩ := X3.leave (v := some (.ref b0)) (fun h => by rw [Bd.returns] at h; cases h)
    refine ⟨_, _, pw1 _ ?_, hrun, hended, _, _, rfl, ?_, ⟨_, rfl⟩, hW, hsame.mono (by decide) (by decide)⟩
    · skip
      refine XS.ifNo X0.here hx rfl (hb hby d1_1) rfl ((if0 _ _).trans (teq hc2).2) ?_
      show Steps p.tables e below (s₁.setTop (mkF m 4 #[.val (.int p1)] [])) _
      refine st3 _ ?_
      show Steps p.tables e below (T3.setTop (mkF m 7 #[.val (.int p1)] [(.ref b0)])) _
      exact retOut X3 hx Bd.returns rfl (Or.inr (Or.inr (Or.inr (Or.inr ⟨rfl, rfl, rfl⟩)))) (hb hby d1_7) hr
    · show Q_1 Z p1 b0 b1 b2 b3 b4 b5 b6 b7 b8 r h0 n0 _ T3.heap _
      rw [e3]
      exact ⟨by rw [← hsp]; unfold own_pick; rw [if_pos hc2], N0, rfl⟩
  · skip
    have pw4 : ∀ t, Steps p.tables e below (s₁.setTop (mkF m 10 #[.val (.int p1)] [(.int (1 : Int32)), (.int p1)])) t → Steps p.tables e below (s₁.setTop (entryFrame m #[(.int p1)] 1)) t := by
      intro t k
      refine pw1 t ?_
      refine XS.ifYes X0.here hx rfl (pc0 := 1) (pc' := 8) rfl (hb hby d1_1) rfl ((if0 _ _).trans (feq hc2).2) (by decide) (by decide) ?_
      show Steps p.tables e below (s₁.setTop (mkF m 8 #[.val (.int p1)] [])) _
      refine XS.iloadN X0.here hx rfl (hb hby d1_8) rfl ?_
      show Steps p.tables e below (s₁.setTop (mkF m 9 #[.val (.int p1)] [(.int p1)])) _
      refine XS.iconst X0.here hx rfl (hb hby d1_9) ?_
      show Steps p.tables e below (s₁.setTop (mkF m 10 #[.val (.int p1)] [(.int (1 : Int32)), (.int p1)])) _
      exact k
    by_cases hc5 : p1 = (1 : Int32)
    · skip
      obtain ⟨T6, X6, e6, st6⟩ := getS2 X0 hx hZ hown (host := "") (Or.inl (hw _ (List.mem_of_getElem? (i := 22) rfl))) Via.refl e0 S_b1 (g := (mkF m 13 #[.val (.int p1)] [])) rfl (hb hby d1_13)
      obtain ⟨fs, hr, hrun, hended, hW, hsame⟩ := X6.leave (v := some (.ref b1)) (fun h => by rw [Bd.returns] at h; cases h)
      refine ⟨_, _, pw4 _ ?_, hrun, hended, _, _, rfl, ?_, ⟨_, rfl⟩, hW, hsame.mono (by decide) (by decide)⟩
      · skip
        refine XS.icmpNo X0.here hx rfl (hb hby d1_10) rfl (teq hc5).2 ?_
        show Steps p.tables e below (s₁.setTop (mkF m 13 #[.val (.int p1)] [])) _
        refine st6 _ ?_
        show Steps p.tables e below (T6.setTop (mkF m 16 #[.val (.int p1)] [(.ref b1)])) _
        exact retOut X6 hx Bd.returns rfl (Or.inr (Or.inr (Or.inr (Or.inr ⟨rfl, rfl, rfl⟩)))) (hb hby d1_16) hr
      · show Q_1 Z p1 b0 b1 b2 b3 b4 b5 b6 b7 b8 r h0 n0 _ T6.heap _
        rw [e6]
        exact ⟨by rw [← hsp]; unfold own_pick; rw [if_neg hc2, if_pos hc5], N0, rfl⟩
    · skip
      have pw7 : ∀ t, Steps p.tables e below (s₁.setTop (mkF m 19 #[.val (.int p1)] [(.int (2 : Int32)), (.int p1)])) t → Steps p.tables e below (s₁.setTop (entryFrame m #[(.int p1)] 1)) t := by
        intro t k
        refine pw4 t ?_
        refine XS.icmpYes X0.here hx rfl (pc0 := 10) (pc' := 17) rfl (hb hby d1_10) rfl (feq hc5).2 (by decide) (by decide) ?_
        show Steps p.tables e below (s₁.setTop (mkF m 17 #[.val (.int p1)] [])) _
        refine XS.iloadN X0.here hx rfl (hb hby d1_17) rfl ?_
        show Steps p.tables e below (s₁.setTop (mkF m 18 #[.val (.int p1)] [(.int p1)])) _
        refine XS.iconst X0.here hx rfl (hb hby d1_18) ?_
        show Steps p.tables e below (s₁.setTop (mkF m 19 #[.val (.int p1)] [(.int (2 : Int32)), (.int p1)])) _
        exact k
      by_cases hc8 : p1 = (2 : Int32)
      · skip
        obtain ⟨T9, X9, e9, st9⟩ := getS2 X0 hx hZ hown (host := "") (Or.inl (hw _ (List.mem_of_getElem? (i := 20) rfl))) Via.refl e0 S_b2 (g := (mkF m 22 #[.val (.int p1)] [])) rfl (hb hby d1_22)
        obtain ⟨fs, hr, hrun, hended, hW, hsame⟩ := X9.leave (v := some (.ref b2)) (fun h => by rw [Bd.returns] at h; cases h)
        refine ⟨_, _, pw7 _ ?_, hrun, hended, _, _, rfl, ?_, ⟨_, rfl⟩, hW, hsame.mono (by decide) (by decide)⟩
        · skip
          refine XS.icmpNo X0.here hx rfl (hb hby d1_19) rfl (teq hc8).2 ?_
          show Steps p.tables e below (s₁.setTop (mkF m 22 #[.val (.int p1)] [])) _
          refine st9 _ ?_
          show Steps p.tables e below (T9.setTop (mkF m 25 #[.val (.int p1)] [(.ref b2)])) _
          exact retOut X9 hx Bd.returns rfl (Or.inr (Or.inr (Or.inr (Or.inr ⟨rfl, rfl, rfl⟩)))) (hb hby d1_25) hr
        · show Q_1 Z p1 b0 b1 b2 b3 b4 b5 b6 b7 b8 r h0 n0 _ T9.heap _
          rw [e9]
          exact ⟨by rw [← hsp]; unfold own_pick; rw [if_neg hc2, if_neg hc5, if_pos hc8], N0, rfl⟩
      · skip
        have pw10 : ∀ t, Steps p.tables e below (s₁.setTop (mkF m 28 #[.val (.int p1)] [(.int (3 : Int32)), (.int p1)])) t → Steps p.tables e below (s₁.setTop (entryFrame m #[(.int p1)] 1)) t := by
          intro t k
          refine pw7 t ?_
          refine XS.icmpYes X0.here hx rfl (pc0 := 19) (pc' := 26) rfl (hb hby d1_19) rfl (feq hc8).2 (by decide) (by decide) ?_
          show Steps p.tables e below (s₁.setTop (mkF m 26 #[.val (.int p1)] [])) _
          refine XS.iloadN X0.here hx rfl (hb hby d1_26) rfl ?_
          show Steps p.tables e below (s₁.setTop (mkF m 27 #[.val (.int p1)] [(.int p1)])) _
          refine XS.iconst X0.here hx rfl (hb hby d1_27) ?_
          show Steps p.tables e below (s₁.setTop (mkF m 28 #[.val (.int p1)] [(.int (3 : Int32)), (.int p1)])) _
          exact k
        by_cases hc11 : p1 = (3 : Int32)
        · skip
          obtain ⟨T12, X12, e12, st12⟩ := getS2 X0 hx hZ hown (host := "") (Or.inl (hw _ (List.mem_of_getElem? (i := 18) rfl))) Via.refl e0 S_b3 (g := (mkF m 31 #[.val (.int p1)] [])) rfl (hb hby d1_31)
          obtain ⟨fs, hr, hrun, hended, hW, hsame⟩ := X12.leave (v := some (.ref b3)) (fun h => by rw [Bd.returns] at h; cases h)
          refine ⟨_, _, pw10 _ ?_, hrun, hended, _, _, rfl, ?_, ⟨_, rfl⟩, hW, hsame.mono (by decide) (by decide)⟩
          · skip
            refine XS.icmpNo X0.here hx rfl (hb hby d1_28) rfl (teq hc11).2 ?_
            show Steps p.tables e below (s₁.setTop (mkF m 31 #[.val (.int p1)] [])) _
            refine st12 _ ?_
            show Steps p.tables e below (T12.setTop (mkF m 34 #[.val (.int p1)] [(.ref b3)])) _
            exact retOut X12 hx Bd.returns rfl (Or.inr (Or.inr (Or.inr (Or.inr ⟨rfl, rfl, rfl⟩)))) (hb hby d1_34) hr
          · show Q_1 Z p1 b0 b1 b2 b3 b4 b5 b6 b7 b8 r h0 n0 _ T12.heap _
            rw [e12]
            exact ⟨by rw [← hsp]; unfold own_pick; rw [if_neg hc2, if_neg hc5, if_neg hc8, if_pos hc11], N0, rfl⟩
        · skip
          have pw13 : ∀ t, Steps p.tables e below (s₁.setTop (mkF m 37 #[.val (.int p1)] [(.int (4 : Int32)), (.int p1)])) t → Steps p.tables e below (s₁.setTop (entryFrame m #[(.int p1)] 1)) t := by
            intro t k
            refine pw10 t ?_
            refine XS.icmpYes X0.here hx rfl (pc0 := 28) (pc' := 35) rfl (hb hby d1_28) rfl (feq hc11).2 (by decide) (by decide) ?_
            show Steps p.tables e below (s₁.setTop (mkF m 35 #[.val (.int p1)] [])) _
            refine XS.iloadN X0.here hx rfl (hb hby d1_35) rfl ?_
            show Steps p.tables e below (s₁.setTop (mkF m 36 #[.val (.int p1)] [(.int p1)])) _
            refine XS.iconst X0.here hx rfl (hb hby d1_36) ?_
            show Steps p.tables e below (s₁.setTop (mkF m 37 #[.val (.int p1)] [(.int (4 : Int32)), (.int p1)])) _
            exact k
          by_cases hc14 : p1 = (4 : Int32)
          · skip
            obtain ⟨T15, X15, e15, st15⟩ := getS2 X0 hx hZ hown (host := "") (Or.inl (hw _ (List.mem_of_getElem? (i := 27) rfl))) Via.refl e0 S_b4 (g := (mkF m 40 #[.val (.int p1)] [])) rfl (hb hby d1_40)
            obtain ⟨fs, hr, hrun, hended, hW, hsame⟩ := X15.leave (v := some (.ref b4)) (fun h => by rw [Bd.returns] at h; cases h)
            refine ⟨_, _, pw13 _ ?_, hrun, hended, _, _, rfl, ?_, ⟨_, rfl⟩, hW, hsame.mono (by decide) (by decide)⟩
            · skip
              refine XS.icmpNo X0.here hx rfl (hb hby d1_37) rfl (teq hc14).2 ?_
              show Steps p.tables e below (s₁.setTop (mkF m 40 #[.val (.int p1)] [])) _
              refine st15 _ ?_
              show Steps p.tables e below (T15.setTop (mkF m 43 #[.val (.int p1)] [(.ref b4)])) _
              exact retOut X15 hx Bd.returns rfl (Or.inr (Or.inr (Or.inr (Or.inr ⟨rfl, rfl, rfl⟩)))) (hb hby d1_43) hr
            · show Q_1 Z p1 b0 b1 b2 b3 b4 b5 b6 b7 b8 r h0 n0 _ T15.heap _
              rw [e15]
              exact ⟨by rw [← hsp]; unfold own_pick; rw [if_neg hc2, if_neg hc5, if_neg hc8, if_neg hc11, if_pos hc14], N0, rfl⟩
          · skip
            have pw16 : ∀ t, Steps p.tables e below (s₁.setTop (mkF m 46 #[.val (.int p1)] [(.int (5 : Int32)), (.int p1)])) t → Steps p.tables e below (s₁.setTop (entryFrame m #[(.int p1)] 1)) t := by
              intro t k
              refine pw13 t ?_
              refine XS.icmpYes X0.here hx rfl (pc0 := 37) (pc' := 44) rfl (hb hby d1_37) rfl (feq hc14).2 (by decide) (by decide) ?_
              show Steps p.tables e below (s₁.setTop (mkF m 44 #[.val (.int p1)] [])) _
              refine XS.iloadN X0.here hx rfl (hb hby d1_44) rfl ?_
              show Steps p.tables e below (s₁.setTop (mkF m 45 #[.val (.int p1)] [(.int p1)])) _
              refine XS.iconst X0.here hx rfl (hb hby d1_45) ?_
              show Steps p.tables e below (s₁.setTop (mkF m 46 #[.val (.int p1)] [(.int (5 : Int32)), (.int p1)])) _
              exact k
            by_cases hc17 : p1 = (5 : Int32)
            · skip
              obtain ⟨T18, X18, e18, st18⟩ := getS2 X0 hx hZ hown (host := "") (Or.inl (hw _ (List.mem_of_getElem? (i := 33) rfl))) Via.refl e0 S_b5 (g := (mkF m 49 #[.val (.int p1)] [])) rfl (hb hby d1_49)
              obtain ⟨fs, hr, hrun, hended, hW, hsame⟩ := X18.leave (v := some (.ref b5)) (fun h => by rw [Bd.returns] at h; cases h)
              refine ⟨_, _, pw16 _ ?_, hrun, hended, _, _, rfl, ?_, ⟨_, rfl⟩, hW, hsame.mono (by decide) (by decide)⟩
              · skip
                refine XS.icmpNo X0.here hx rfl (hb hby d1_46) rfl (teq hc17).2 ?_
                show Steps p.tables e below (s₁.setTop (mkF m 49 #[.val (.int p1)] [])) _
                refine st18 _ ?_
                show Steps p.tables e below (T18.setTop (mkF m 52 #[.val (.int p1)] [(.ref b5)])) _
                exact retOut X18 hx Bd.returns rfl (Or.inr (Or.inr (Or.inr (Or.inr ⟨rfl, rfl, rfl⟩)))) (hb hby d1_52) hr
              · show Q_1 Z p1 b0 b1 b2 b3 b4 b5 b6 b7 b8 r h0 n0 _ T18.heap _
                rw [e18]
                exact ⟨by rw [← hsp]; unfold own_pick; rw [if_neg hc2, if_neg hc5, if_neg hc8, if_neg hc11, if_neg hc14, if_pos hc17], N0, rfl⟩
            · skip
              have pw19 : ∀ t, Steps p.tables e below (s₁.setTop (mkF m 56 #[.val (.int p1)] [(.int (6 : Int32)), (.int p1)])) t → Steps p.tables e below (s₁.setTop (entryFrame m #[(.int p1)] 1)) t := by
                intro t k
                refine pw16 t ?_
                refine XS.icmpYes X0.here hx rfl (pc0 := 46) (pc' := 53) rfl (hb hby d1_46) rfl (feq hc17).2 (by decide) (by decide) ?_
                show Steps p.tables e below (s₁.setTop (mkF m 53 #[.val (.int p1)] [])) _
                refine XS.iloadN X0.here hx rfl (hb hby d1_53) rfl ?_
                show Steps p.tables e below (s₁.setTop (mkF m 54 #[.val (.int p1)] [(.int p1)])) _
                refine XS.bipush X0.here hx rfl (hb hby d1_54) ?_
                show Steps p.tables e below (s₁.setTop (mkF m 56 #[.val (.int p1)] [(.int (6 : Int32)), (.int p1)])) _
                exact k
              by_cases hc20 : p1 = (6 : Int32)
              · skip
                obtain ⟨T21, X21, e21, st21⟩ := getS2 X0 hx hZ hown (host := "") (Or.inl (hw _ (List.mem_of_getElem? (i := 31) rfl))) Via.refl e0 S_b6 (g := (mkF m 59 #[.val (.int p1)] [])) rfl (hb hby d1_59)
                obtain ⟨fs, hr, hrun, hended, hW, hsame⟩ := X21.leave (v := some (.ref b6)) (fun h => by rw [Bd.returns] at h; cases h)
                refine ⟨_, _, pw19 _ ?_, hrun, hended, _, _, rfl, ?_, ⟨_, rfl⟩, hW, hsame.mono (by decide) (by decide)⟩
                · skip
                  refine XS.icmpNo X0.here hx rfl (hb hby d1_56) rfl (teq hc20).2 ?_
                  show Steps p.tables e below (s₁.setTop (mkF m 59 #[.val (.int p1)] [])) _
                  refine st21 _ ?_
                  show Steps p.tables e below (T21.setTop (mkF m 62 #[.val (.int p1)] [(.ref b6)])) _
                  exact retOut X21 hx Bd.returns rfl (Or.inr (Or.inr (Or.inr (Or.inr ⟨rfl, rfl, rfl⟩)))) (hb hby d1_62) hr
                · show Q_1 Z p1 b0 b1 b2 b3 b4 b5 b6 b7 b8 r h0 n0 _ T21.heap _
                  rw [e21]
                  exact ⟨by rw [← hsp]; unfold own_pick; rw [if_neg hc2, if_neg hc5, if_neg hc8, if_neg hc11, if_neg hc14, if_neg hc17, if_pos hc20], N0, rfl⟩
              · skip
                have pw22 : ∀ t, Steps p.tables e below (s₁.setTop (mkF m 66 #[.val (.int p1)] [(.int (7 : Int32)), (.int p1)])) t → Steps p.tables e below (s₁.setTop (entryFrame m #[(.int p1)] 1)) t := by
                  intro t k
                  refine pw19 t ?_
                  refine XS.icmpYes X0.here hx rfl (pc0 := 56) (pc' := 63) rfl (hb hby d1_56) rfl (feq hc20).2 (by decide) (by decide) ?_
                  show Steps p.tables e below (s₁.setTop (mkF m 63 #[.val (.int p1)] [])) _
                  refine XS.iloadN X0.here hx rfl (hb hby d1_63) rfl ?_
                  show Steps p.tables e below (s₁.setTop (mkF m 64 #[.val (.int p1)] [(.int p1)])) _
                  refine XS.bipush X0.here hx rfl (hb hby d1_64) ?_
                  show Steps p.tables e below (s₁.setTop (mkF m 66 #[.val (.int p1)] [(.int (7 : Int32)), (.int p1)])) _
                  exact k
                by_cases hc23 : p1 = (7 : Int32)
                · skip
                  obtain ⟨T24, X24, e24, st24⟩ := getS2 X0 hx hZ hown (host := "") (Or.inl (hw _ (List.mem_of_getElem? (i := 24) rfl))) Via.refl e0 S_b7 (g := (mkF m 69 #[.val (.int p1)] [])) rfl (hb hby d1_69)
                  obtain ⟨fs, hr, hrun, hended, hW, hsame⟩ := X24.leave (v := some (.ref b7)) (fun h => by rw [Bd.returns] at h; cases h)
                  refine ⟨_, _, pw22 _ ?_, hrun, hended, _, _, rfl, ?_, ⟨_, rfl⟩, hW, hsame.mono (by decide) (by decide)⟩
                  · skip
                    refine XS.icmpNo X0.here hx rfl (hb hby d1_66) rfl (teq hc23).2 ?_
                    show Steps p.tables e below (s₁.setTop (mkF m 69 #[.val (.int p1)] [])) _
                    refine st24 _ ?_
                    show Steps p.tables e below (T24.setTop (mkF m 72 #[.val (.int p1)] [(.ref b7)])) _
                    exact retOut X24 hx Bd.returns rfl (Or.inr (Or.inr (Or.inr (Or.inr ⟨rfl, rfl, rfl⟩)))) (hb hby d1_72) hr
                  · show Q_1 Z p1 b0 b1 b2 b3 b4 b5 b6 b7 b8 r h0 n0 _ T24.heap _
                    rw [e24]
                    exact ⟨by rw [← hsp]; unfold own_pick; rw [if_neg hc2, if_neg hc5, if_neg hc8, if_neg hc11, if_neg hc14, if_neg hc17, if_neg hc20, if_pos hc23], N0, rfl⟩
                · skip
                  obtain ⟨T25, X25, e25, st25⟩ := getS2 X0 hx hZ hown (host := "") (Or.inl (hw _ (List.mem_of_getElem? (i := 29) rfl))) Via.refl e0 S_b8 (g := (mkF m 73 #[.val (.int p1)] [])) rfl (hb hby d1_73)
                  obtain ⟨fs, hr, hrun, hended, hW, hsame⟩ := X25.leave (v := some (.ref b8)) (fun h => by rw [Bd.returns] at h; cases h)
                  refine ⟨_, _, pw22 _ ?_, hrun, hended, _, _, rfl, ?_, ⟨_, rfl⟩, hW, hsame.mono (by decide) (by decide)⟩
                  · skip
                    refine XS.icmpYes X0.here hx rfl (pc0 := 66) (pc' := 73) rfl (hb hby d1_66) rfl (feq hc23).2 (by decide) (by decide) ?_
                    show Steps p.tables e below (s₁.setTop (mkF m 73 #[.val (.int p1)] [])) _
                    refine st25 _ ?_
                    show Steps p.tables e below (T25.setTop (mkF m 76 #[.val (.int p1)] [(.ref b8)])) _
                    exact retOut X25 hx Bd.returns rfl (Or.inr (Or.inr (Or.inr (Or.inr ⟨rfl, rfl, rfl⟩)))) (hb hby d1_76) hr
                  · show Q_1 Z p1 b0 b1 b2 b3 b4 b5 b6 b7 b8 r h0 n0 _ T25.heap _
                    rw [e25]
                    exact ⟨by rw [← hsp]; unfold own_pick; rw [if_neg hc2, if_neg hc5, if_neg hc8, if_neg hc11, if_neg hc14, if_neg hc17, if_neg hc20, if_neg hc23], N0, rfl⟩
theorem d2_0 : decode prog_21_method_4_code 0 = .ok (.aload_n 0, 1) := by decide +kernel
theorem d2_1 : decode prog_21_method_4_code 1 = .ok (.getfield 50, 3) := by decide +kernel
theorem d2_4 : decode prog_21_method_4_code 4 = .ok (.getstatic 54, 3) := by decide +kernel
theorem d2_7 : decode prog_21_method_4_code 7 = .ok (.if_acmp .ne 7, 3) := by decide +kernel
theorem d2_10 : decode prog_21_method_4_code 10 = .ok (.iconst 1, 1) := by decide +kernel
theorem d2_11 : decode prog_21_method_4_code 11 = .ok (.goto 4, 3) := by decide +kernel
theorem d2_14 : decode prog_21_method_4_code 14 = .ok (.iconst 0, 1) := by decide +kernel
theorem d2_15 : decode prog_21_method_4_code 15 = .ok (.ireturn, 1) := by decide +kernel
theorem ef_2 (m : MethodId) (x0 : Addr) : entryFrame m #[(.ref x0)] 1 = mkF m 0 #[.val (.ref x0)] [] := by first | (simp [entryFrame, mkF, argsToLocals, Value.category]; done) | rfl
theorem pn_com_example_marginwright_marginwright_Rule : plainName "com/example/marginwright/marginwright/Rule" = true := by first | (simp [plainName, overriddenIn]; done) | decide +kernel
def Q_2 (Z : State) (a1 : Addr) (u f : Addr) (r : Int32) (h0 : Heap) (n0 : Nat) (v : Option Value) (h : Heap) (L : List Loc) : Prop := v = some (.int r) ∧ Fr n0 L ∧ h = h0
set_option maxRecDepth 65536 in
set_option maxHeartbeats 40000000 in
theorem rm_2 (l : Launch) (Z : State) (a0 : Array Value) (hw : ∀ d ∈ tables_1, d.before a0 Z = true) (ws : List Jvm.Cond) (a1 : Addr) (u f : Addr) (r : Int32) (h0 : Heap) (n0 : Nat) (Z0 : n0 ≤ h0.size) (S_f : Sta Z h0 "com/example/marginwright/marginwright/Rule$Unit" "FRACTION" "Lcom/example/marginwright/marginwright/Rule$Unit;" (.ref f)) (F_u : Fld Z h0 a1 "com/example/marginwright/marginwright/Rule" "unit" "Lcom/example/marginwright/marginwright/Rule$Unit;" (.ref u)) (hsp : own_frac u f = r) :
    MetFree l (⟨"com/example/marginwright/marginwright/Rule", "isFraction", "()Z"⟩ : MethodName) (head1 (Jvm.Cond.code (⟨"com/example/marginwright/marginwright/Rule", "isFraction", "()Z"⟩ : MethodName) prog_21_method_4_code 1 (some .boolean) :: ws) ({ frames := 0, cells := 0, slots := 0, locals := 0 } : Room)) (fun a U => a = #[(.ref a1)] ∧ Z.Warmed39 U.vm ∧ U.heap = h0) (fun _ _ _ _ _ => True) (fun _ U o U' => ∃ v L, o = .returned v ∧ Q_2 Z a1 u f r h0 n0 v U'.heap L ∧ FrameEnd U o U' L ({ frames := 0, cells := 0, slots := 0, locals := 0 } : Room).cells ({ frames := 0, cells := 0, slots := 0, locals := 0 } : Room).slots) := by
  refine MetFree.of_bodySF (plainFor_of_name pn_com_example_marginwright_marginwright_Rule) hisR ?_
  intro p e s m args below meth c s₁ Bd hml0 hP hK
  obtain ⟨rfl, hZ, hh⟩ := hP
  have hx := Bd.exec
  have hby := Bd.bytes
  have hml : c.maxLocals = 1 := hml0
  have hown : s.vm.findClass "com/example/marginwright/marginwright/Rule" = some m.cls := findClass_of_methodNamed Bd.named
  have hnm := (name_of_methodNamed Bd.named Bd.method).1
  have X0 : Stand p l e ({ frames := 0, cells := 0, slots := 0, locals := 0 } : Room) s m #[(.ref a1)] below meth c s₁ [] 0 0 := Stand.of_body Bd
  have e0 : s₁.heap = h0 := by rw [← hh, Bd.state]; rfl
  have N0 := Fr.nil n0
  have pw0 : ∀ t, Steps p.tables e below (s₁.setTop (mkF m 0 #[.val (.ref a1)] [])) t → Steps p.tables e below (s₁.setTop (entryFrame m #[(.ref a1)] 1)) t := fun t k => castTop (ef_2 m a1) k
  have K0 : Keep h0 h0 [] := Keep.refl h0 []
  obtain ⟨T26, X26, e26, st26⟩ := getF X0 hx hZ hown (host := "") (Or.inl (hw _ (List.mem_of_getElem? (i := 13) rfl))) Via.refl e0 F_u (g := (mkF m 1 #[.val (.ref a1)] [(.ref a1)])) rfl rfl (hb hby d2_1)
  obtain ⟨T27, X27, e27, st27⟩ := getS2 X26 hx hZ hown (host := "") (Or.inl (hw _ (List.mem_of_getElem? (i := 17) rfl))) Via.refl e26 S_f (g := (mkF m 4 #[.val (.ref a1)] [(.ref u)])) rfl (hb hby d2_4)
  have pw28 : ∀ t, Steps p.tables e below (T27.setTop (mkF m 7 #[.val (.ref a1)] [(.ref f), (.ref u)])) t → Steps p.tables e below (s₁.setTop (entryFrame m #[(.ref a1)] 1)) t := by
    intro t k
    refine pw0 t ?_
    refine XS.aloadN X0.here hx rfl (hb hby d2_0) rfl rfl ?_
    show Steps p.tables e below (s₁.setTop (mkF m 1 #[.val (.ref a1)] [(.ref a1)])) _
    refine st26 _ ?_
    show Steps p.tables e below (T26.setTop (mkF m 4 #[.val (.ref a1)] [(.ref u)])) _
    refine st27 _ ?_
    show Steps p.tables e below (T27.setTop (mkF m 7 #[.val (.ref a1)] [(.ref f), (.ref u)])) _
    exact k
  by_cases ha29 : u = f
  · skip
    obtain ⟨fs, hr, hrun, hended, hW, hsame⟩ := X27.leave (v := some (.int (1 : Int32))) (fun h => by rw [Bd.returns] at h; cases h)
    refine ⟨_, _, pw28 _ ?_, hrun, hended, _, _, rfl, ?_, ⟨_, rfl⟩, hW, hsame.mono (by decide) (by decide)⟩
    · skip
      refine Jvm.RoadKit.acmp (g := (mkF m 7 #[.val (.ref a1)] [(.ref f), (.ref u)])) X27 hx rfl rfl rfl (pc0 := 7) (pc' := 10) (same := true) rfl (hb hby d2_7) rfl (decide_eq_true (congrArg Value.ref ha29)) (by decide) (by decide) ?_
      show Steps p.tables e below (T27.setTop (mkF m 10 #[.val (.ref a1)] [])) _
      refine XS.iconst X27.here hx rfl (hb hby d2_10) ?_
      show Steps p.tables e below (T27.setTop (mkF m 11 #[.val (.ref a1)] [(.int (1 : Int32))])) _
      refine XS.goto X27.here hx rfl (pc0 := 11) (pc' := 15) rfl (hb hby d2_11) (by decide) (by decide) ?_
      show Steps p.tables e below (T27.setTop (mkF m 15 #[.val (.ref a1)] [(.int (1 : Int32))])) _
      exact retN X27 hx (t := .boolean) Bd.returns (by simp) (hb hby d2_15) hr
    · show Q_2 Z a1 u f r h0 n0 _ T27.heap _
      rw [e27]
      exact ⟨by rw [← hsp]; unfold own_frac; rw [if_pos ha29], N0, rfl⟩
  · skip
    obtain ⟨fs, hr, hrun, hended, hW, hsame⟩ := X27.leave (v := some (.int (0 : Int32))) (fun h => by rw [Bd.returns] at h; cases h)
    refine ⟨_, _, pw28 _ ?_, hrun, hended, _, _, rfl, ?_, ⟨_, rfl⟩, hW, hsame.mono (by decide) (by decide)⟩
    · skip
      refine Jvm.RoadKit.acmp (g := (mkF m 7 #[.val (.ref a1)] [(.ref f), (.ref u)])) X27 hx rfl rfl rfl (pc0 := 7) (pc' := 14) (same := false) rfl (hb hby d2_7) rfl (decide_eq_false fun q => ha29 (Value.ref.inj q)) (by decide) (by decide) ?_
      show Steps p.tables e below (T27.setTop (mkF m 14 #[.val (.ref a1)] [])) _
      refine XS.iconst X27.here hx rfl (hb hby d2_14) ?_
      show Steps p.tables e below (T27.setTop (mkF m 15 #[.val (.ref a1)] [(.int (0 : Int32))])) _
      exact retN X27 hx (t := .boolean) Bd.returns (by simp) (hb hby d2_15) hr
    · show Q_2 Z a1 u f r h0 n0 _ T27.heap _
      rw [e27]
      exact ⟨by rw [← hsp]; unfold own_frac; rw [if_neg ha29], N0, rfl⟩
theorem ef_0 (m : MethodId) (x0 : Int32) : entryFrame m #[(.int x0)] maxLocals = mkF m 0 #[.val (.int x0), .unset, .unset, .unset] [] := by first | (simp [entryFrame, mkF, argsToLocals, Value.category, maxLocals]; done) | rfl
def Q_0 (Z : State) (x0 : Int32) (b0 b1 b2 b3 b4 b5 b6 b7 b8 r u f : Addr) (q : Int32) (h0 : Heap) (n0 : Nat) (v : Option Value) (h : Heap) (L : List Loc) : Prop := v = some (.int 1) ∧ Fr n0 L
set_option maxRecDepth 65536 in
set_option maxHeartbeats 40000000 in
theorem rm_0 (l : Launch) (Z : State) (a0 : Array Value) (hw : ∀ d ∈ tables_1, d.before a0 Z = true) (ws : List Jvm.Cond) (x0 : Int32) (b0 b1 b2 b3 b4 b5 b6 b7 b8 r u f : Addr) (q : Int32) (h0 : Heap) (n0 : Nat) (Z0 : n0 ≤ h0.size) (S_b0 : Sta Z h0 "com/example/marginwright/marginwright/Rule" "LOCK_LIMIT_ADD_FIRST" "Lcom/example/marginwright/marginwright/Rule;" (.ref b0)) (S_b1 : Sta Z h0 "com/example/marginwright/marginwright/Rule" "LOCK_LIMIT_ADD_SECOND" "Lcom/example/marginwright/marginwright/Rule;" (.ref b1)) (S_b2 : Sta Z h0 "com/example/marginwright/marginwright/Rule" "LOCK_MARGIN_ADD" "Lcom/example/marginwright/marginwright/Rule;" (.ref b2)) (S_b3 : Sta Z h0 "com/example/marginwright/marginwright/Rule" "REDUCTION_TIER_HIGH" "Lcom/example/marginwright/marginwright/Rule;" (.ref b3)) (S_b4 : Sta Z h0 "com/example/marginwright/marginwright/Rule" "REDUCTION_TIER_MID" "Lcom/example/marginwright/marginwright/Rule;" (.ref b4)) (S_b5 : Sta Z h0 "com/example/marginwright/marginwright/Rule" "REDUCTION_HEDGE" "Lcom/example/marginwright/marginwright/Rule;" (.ref b5)) (S_b6 : Sta Z h0 "com/example/marginwright/marginwright/Rule" "MINIMUM_RESERVE_MEMBER" "Lcom/example/marginwright/marginwright/Rule;" (.ref b6)) (S_b7 : Sta Z h0 "com/example/marginwright/marginwright/Rule" "MINIMUM_RESERVE_BROKER_MEMBER" "Lcom/example/marginwright/marginwright/Rule;" (.ref b7)) (S_b8 : Sta Z h0 "com/example/marginwright/marginwright/Rule" "LARGE_TRADER_REPORT_SHARE" "Lcom/example/marginwright/marginwright/Rule;" (.ref b8)) (S_f : Sta Z h0 "com/example/marginwright/marginwright/Rule$Unit" "FRACTION" "Lcom/example/marginwright/marginwright/Rule$Unit;" (.ref f)) (E_r : Exa Z h0 r "com/example/marginwright/marginwright/Rule") (F_u : Fld Z h0 r "com/example/marginwright/marginwright/Rule" "unit" "Lcom/example/marginwright/marginwright/Rule$Unit;" (.ref u)) (hp : own_pick ((x0 &&& (2147483647 : Int32)) % (9 : Int32)) b0 b1 b2 b3 b4 b5 b6 b7 b8 = r) (hq : own_frac u f = q) (he : own_exp ((x0 &&& (2147483647 : Int32)) % (9 : Int32)) = q) :
    MetFree l x (head1 (Jvm.Cond.code x code maxLocals ret :: ws) room_1) (fun a U => a = #[(.int x0)] ∧ Z.Warmed39 U.vm ∧ U.heap = h0) (fun _ _ _ _ _ => True) (fun _ U o U' => ∃ v L, o = .returned v ∧ Q_0 Z x0 b0 b1 b2 b3 b4 b5 b6 b7 b8 r u f q h0 n0 v U'.heap L ∧ FrameEnd U o U' L room_1.cells room_1.slots) := by
  refine MetFree.of_bodySF (plainFor_of_name pn_com_example_marginwright_marginwright_RuleIsFractionPinLaw) hisR ?_
  intro p e s m args below meth c s₁ Bd hml0 hP hK
  obtain ⟨rfl, hZ, hh⟩ := hP
  have hx := Bd.exec
  have hby := Bd.bytes
  have hml : c.maxLocals = 4 := hml0
  have hown : s.vm.findClass "com/example/marginwright/marginwright/RuleIsFractionPinLaw" = some m.cls := findClass_of_methodNamed Bd.named
  have hnm := (name_of_methodNamed Bd.named Bd.method).1
  have X0 : Stand p l e room_1 s m #[(.int x0)] below meth c s₁ [] 0 0 := Stand.of_body Bd
  have e0 : s₁.heap = h0 := by rw [← hh, Bd.state]; rfl
  have N0 := Fr.nil n0
  have pw0 : ∀ t, Steps p.tables e below (s₁.setTop (mkF m 0 #[.val (.int x0), .unset, .unset, .unset] [])) t → Steps p.tables e below (s₁.setTop (entryFrame m #[(.int x0)] maxLocals)) t := fun t k => castTop (ef_0 m x0) k
  have K0 : Keep h0 h0 [] := Keep.refl h0 []
  obtain ⟨_, _, ⟨T30, L30, k30, n30⟩, -, X30, ⟨Lc30, hQ30, l30, y30, z30⟩, st30⟩ := Jvm.LawKit.callS X0 hx (y := (⟨"com/example/marginwright/marginwright/RuleIsFractionPinLaw", "pick", "(I)Lcom/example/marginwright/marginwright/Rule;"⟩ : MethodName)) hown (mvT hZ (hw _ (List.mem_of_getElem? (i := 1) rfl))) (mvT hZ (hw _ (List.mem_of_getElem? (i := 2) rfl))) (mvT hZ (hw _ (List.mem_of_getElem? (i := 3) rfl))) (mvT hZ (hw _ (List.mem_of_getElem? (i := 4) rfl))) (by decide) (backOf (W := 0) (rm_1 l Z a0 hw [] ((x0 &&& (2147483647 : Int32)) % (9 : Int32)) b0 b1 b2 b3 b4 b5 b6 b7 b8 r h0 n0 Z0 S_b0 S_b1 S_b2 S_b3 S_b4 S_b5 S_b6 S_b7 S_b8 hp) hZ (hw _ (List.mem_of_getElem? (i := 4) rfl)) (hw _ (List.mem_of_getElem? (i := 3) rfl)) (by decide) (by decide)) (g := (mkF m 9 #[.val (.int x0), .val (.int ((x0 &&& (2147483647 : Int32)) % (9 : Int32))), .unset, .unset] [(.int ((x0 &&& (2147483647 : Int32)) % (9 : Int32)))])) rfl (by rw [hml]; rfl) (argsL := [(.int ((x0 &&& (2147483647 : Int32)) % (9 : Int32)))]) (rest := []) (lenOf pd__I_Lcom_example_marginwright_marginwright_Rule_ rfl) rfl (by show 2 * 0 + _ ≤ _; exact Nat.le_of_eq rfl) (hb hby at_9) (fun _ _ => ⟨rfl, e0, (by decide : 0 + 0 ≤ _), (by decide : 0 + 0 ≤ _)⟩)
  dsimp only [Pt.U, Pt.locs, Pt.cells, Pt.slots] at X30 l30 y30 z30 st30 hQ30
  subst l30 y30 z30
  obtain ⟨rfl, N30q, e30q⟩ := hQ30
  have N30 := Fr.app N0 N30q
  have pw31 : ∀ t, Steps p.tables e below (T30.setTop (mkF m 16 #[.val (.int x0), .val (.int ((x0 &&& (2147483647 : Int32)) % (9 : Int32))), .val (.ref r), .unset] [(.int (6 : Int32)), (.int ((x0 &&& (2147483647 : Int32)) % (9 : Int32)))])) t → Steps p.tables e below (s₁.setTop (entryFrame m #[(.int x0)] maxLocals)) t := by
    intro t k
    refine pw0 t ?_
    refine XS.iloadN X0.here hx rfl (hb hby at_0) rfl ?_
    show Steps p.tables e below (s₁.setTop (mkF m 1 #[.val (.int x0), .unset, .unset, .unset] [(.int x0)])) _
    refine X0.ldcInt hx hown (mvT hZ (hw _ (List.mem_of_getElem? (i := 0) rfl))) (g := (mkF m 1 #[.val (.int x0), .unset, .unset, .unset] [(.int x0)])) rfl (hb hby at_1) _ ?_
    show Steps p.tables e below (s₁.setTop (mkF m 3 #[.val (.int x0), .unset, .unset, .unset] [(.int (2147483647 : Int32)), (.int x0)])) _
    refine XS.iand X0.here hx rfl (hb hby at_3) rfl ?_
    show Steps p.tables e below (s₁.setTop (mkF m 4 #[.val (.int x0), .unset, .unset, .unset] [(.int (x0 &&& (2147483647 : Int32)))])) _
    refine XS.bipush X0.here hx rfl (hb hby at_4) ?_
    show Steps p.tables e below (s₁.setTop (mkF m 6 #[.val (.int x0), .unset, .unset, .unset] [(.int (9 : Int32)), (.int (x0 &&& (2147483647 : Int32)))])) _
    refine iremM (g := (mkF m 6 #[.val (.int x0), .unset, .unset, .unset] [(.int (9 : Int32)), (.int (x0 &&& (2147483647 : Int32)))])) X0 hx rfl (hb hby at_6) rfl (by decide) ?_
    show Steps p.tables e below (s₁.setTop (mkF m 7 #[.val (.int x0), .unset, .unset, .unset] [(.int ((x0 &&& (2147483647 : Int32)) % (9 : Int32)))])) _
    refine XS.istoreN X0.here hx rfl (hb hby at_7) rfl (l' := #[.val (.int x0), .val (.int ((x0 &&& (2147483647 : Int32)) % (9 : Int32))), .unset, .unset]) rfl ?_
    show Steps p.tables e below (s₁.setTop (mkF m 8 #[.val (.int x0), .val (.int ((x0 &&& (2147483647 : Int32)) % (9 : Int32))), .unset, .unset] [])) _
    refine XS.iloadN X0.here hx rfl (hb hby at_8) rfl ?_
    show Steps p.tables e below (s₁.setTop (mkF m 9 #[.val (.int x0), .val (.int ((x0 &&& (2147483647 : Int32)) % (9 : Int32))), .unset, .unset] [(.int ((x0 &&& (2147483647 : Int32)) % (9 : Int32)))])) _
    refine st30 _ ?_
    show Steps p.tables e below (T30.setTop (mkF m 12 #[.val (.int x0), .val (.int ((x0 &&& (2147483647 : Int32)) % (9 : Int32))), .unset, .unset] [(.ref r)])) _
    refine XS.astoreN X30.here hx rfl (hb hby at_12) rfl rfl (l' := #[.val (.int x0), .val (.int ((x0 &&& (2147483647 : Int32)) % (9 : Int32))), .val (.ref r), .unset]) rfl ?_
    show Steps p.tables e below (T30.setTop (mkF m 13 #[.val (.int x0), .val (.int ((x0 &&& (2147483647 : Int32)) % (9 : Int32))), .val (.ref r), .unset] [])) _
    refine XS.iloadN X30.here hx rfl (hb hby at_13) rfl ?_
    show Steps p.tables e below (T30.setTop (mkF m 14 #[.val (.int x0), .val (.int ((x0 &&& (2147483647 : Int32)) % (9 : Int32))), .val (.ref r), .unset] [(.int ((x0 &&& (2147483647 : Int32)) % (9 : Int32)))])) _
    refine XS.bipush X30.here hx rfl (hb hby at_14) ?_
    show Steps p.tables e below (T30.setTop (mkF m 16 #[.val (.int x0), .val (.int ((x0 &&& (2147483647 : Int32)) % (9 : Int32))), .val (.ref r), .unset] [(.int (6 : Int32)), (.int ((x0 &&& (2147483647 : Int32)) % (9 : Int32)))])) _
    exact k
  by_cases hc32 : ((x0 &&& (2147483647 : Int32)) % (9 : Int32)) = (6 : Int32)
  · skip
    obtain ⟨cq33, kq33, q33a, q33b, q33c⟩ := isOf hZ e30q E_r
    obtain ⟨_, _, ⟨T33, L33, k33, n33⟩, -, X33, ⟨Lc33, hQ33, l33, y33, z33⟩, st33⟩ := X30.virtualBack hx (y := (⟨"com/example/marginwright/marginwright/Rule", "isFraction", "()Z"⟩ : MethodName)) (z := (⟨"com/example/marginwright/marginwright/Rule", "isFraction", "()Z"⟩ : MethodName)) hown (mvT hZ (hw _ (List.mem_of_getElem? (i := 8) rfl))) (mvT hZ (hw _ (List.mem_of_getElem? (i := 9) rfl))) (notFace_of_selects (args := #[]) (mvT hZ (hw _ (List.mem_of_getElem? (i := 11) rfl)))) (mvT hZ (hw _ (List.mem_of_getElem? (i := 11) rfl))) (mvT hZ (hw _ (List.mem_of_getElem? (i := 10) rfl))) (by decide) (backOf (W := 0) (rm_2 l Z a0 hw [] r u f q h0 n0 Z0 S_f F_u hq) hZ (hw _ (List.mem_of_getElem? (i := 12) rfl)) (hw _ (List.mem_of_getElem? (i := 6) rfl)) (by decide) (by decide)) q33a q33c (g := (mkF m 32 #[.val (.int x0), .val (.int ((x0 &&& (2147483647 : Int32)) % (9 : Int32))), .val (.ref r), .val (.int (1 : Int32))] [(.ref r)])) rfl (by rw [hml]; rfl) (Steps.refl _) (argsL := []) (rest := []) (lenOf pd___Z rfl) rfl (by show 2 * 0 + _ ≤ _; exact Nat.le_of_eq rfl) (hb hby at_32) (fun _ _ => ⟨rfl, e30q, (by decide : 0 + 0 ≤ _), (by decide : 0 + 0 ≤ _)⟩)
    dsimp only [Pt.U, Pt.locs, Pt.cells, Pt.slots] at X33 l33 y33 z33 st33 hQ33
    subst l33 y33 z33
    obtain ⟨rfl, N33q, e33q⟩ := hQ33
    have N33 := Fr.app N30 N33q
    obtain ⟨fs, hr, hrun, hended, hW, hsame⟩ := X33.leave (v := some (.int (1 : Int32))) (fun h => by rw [Bd.returns] at h; cases h)
    refine ⟨_, _, pw31 _ ?_, hrun, hended, _, _, rfl, ?_, ⟨_, rfl⟩, hW, hsame.mono (by decide) (by decide)⟩
    · skip
      refine XS.icmpYes X30.here hx rfl (pc0 := 16) (pc' := 25) rfl (hb hby at_16) rfl (teq hc32).1 (by decide) (by decide) ?_
      show Steps p.tables e below (T30.setTop (mkF m 25 #[.val (.int x0), .val (.int ((x0 &&& (2147483647 : Int32)) % (9 : Int32))), .val (.ref r), .unset] [])) _
      refine XS.iconst X30.here hx rfl (hb hby at_25) ?_
      show Steps p.tables e below (T30.setTop (mkF m 26 #[.val (.int x0), .val (.int ((x0 &&& (2147483647 : Int32)) % (9 : Int32))), .val (.ref r), .unset] [(.int (1 : Int32))])) _
      refine XS.goto X30.here hx rfl (pc0 := 26) (pc' := 30) rfl (hb hby at_26) (by decide) (by decide) ?_
      show Steps p.tables e below (T30.setTop (mkF m 30 #[.val (.int x0), .val (.int ((x0 &&& (2147483647 : Int32)) % (9 : Int32))), .val (.ref r), .unset] [(.int (1 : Int32))])) _
      refine XS.istoreN X30.here hx rfl (hb hby at_30) rfl (l' := #[.val (.int x0), .val (.int ((x0 &&& (2147483647 : Int32)) % (9 : Int32))), .val (.ref r), .val (.int (1 : Int32))]) rfl ?_
      show Steps p.tables e below (T30.setTop (mkF m 31 #[.val (.int x0), .val (.int ((x0 &&& (2147483647 : Int32)) % (9 : Int32))), .val (.ref r), .val (.int (1 : Int32))] [])) _
      refine XS.aloadN X30.here hx rfl (hb hby at_31) rfl rfl ?_
      show Steps p.tables e below (T30.setTop (mkF m 32 #[.val (.int x0), .val (.int ((x0 &&& (2147483647 : Int32)) % (9 : Int32))), .val (.ref r), .val (.int (1 : Int32))] [(.ref r)])) _
      refine st33.trans ?_
      show Steps p.tables e below (T33.setTop (mkF m 35 #[.val (.int x0), .val (.int ((x0 &&& (2147483647 : Int32)) % (9 : Int32))), .val (.ref r), .val (.int (1 : Int32))] [(.int q)])) _
      refine XS.iloadN X33.here hx rfl (hb hby at_35) rfl ?_
      show Steps p.tables e below (T33.setTop (mkF m 36 #[.val (.int x0), .val (.int ((x0 &&& (2147483647 : Int32)) % (9 : Int32))), .val (.ref r), .val (.int (1 : Int32))] [(.int (1 : Int32)), (.int q)])) _
      refine XS.ifYes X33.here hx rfl (pc0 := 36) (pc' := 43) rfl (hb hby at_36) rfl ((if0 _ _).trans (feq (by decide : ¬ ((1 : Int32) = (0 : Int32)))).2) (by decide) (by decide) ?_
      show Steps p.tables e below (T33.setTop (mkF m 43 #[.val (.int x0), .val (.int ((x0 &&& (2147483647 : Int32)) % (9 : Int32))), .val (.ref r), .val (.int (1 : Int32))] [(.int q)])) _
      refine XS.iconst X33.here hx rfl (hb hby at_43) ?_
      show Steps p.tables e below (T33.setTop (mkF m 44 #[.val (.int x0), .val (.int ((x0 &&& (2147483647 : Int32)) % (9 : Int32))), .val (.ref r), .val (.int (1 : Int32))] [(.int (0 : Int32)), (.int q)])) _
      refine XS.icmpNo X33.here hx rfl (hb hby at_44) rfl (teq (he.symm.trans (by unfold own_exp; rw [if_pos hc32]) : q = (0 : Int32))).2 ?_
      show Steps p.tables e below (T33.setTop (mkF m 47 #[.val (.int x0), .val (.int ((x0 &&& (2147483647 : Int32)) % (9 : Int32))), .val (.ref r), .val (.int (1 : Int32))] [])) _
      refine XS.iconst X33.here hx rfl (hb hby at_47) ?_
      show Steps p.tables e below (T33.setTop (mkF m 48 #[.val (.int x0), .val (.int ((x0 &&& (2147483647 : Int32)) % (9 : Int32))), .val (.ref r), .val (.int (1 : Int32))] [(.int (1 : Int32))])) _
      refine XS.goto X33.here hx rfl (pc0 := 48) (pc' := 52) rfl (hb hby at_48) (by decide) (by decide) ?_
      show Steps p.tables e below (T33.setTop (mkF m 52 #[.val (.int x0), .val (.int ((x0 &&& (2147483647 : Int32)) % (9 : Int32))), .val (.ref r), .val (.int (1 : Int32))] [(.int (1 : Int32))])) _
      exact retN X33 hx (t := .boolean) Bd.returns (by simp) (hb hby at_52) hr
    · show Q_0 Z x0 b0 b1 b2 b3 b4 b5 b6 b7 b8 r u f q h0 n0 _ T33.heap _
      rw [e33q]
      exact ⟨rfl, N33⟩
  · skip
    have pw34 : ∀ t, Steps p.tables e below (T30.setTop (mkF m 22 #[.val (.int x0), .val (.int ((x0 &&& (2147483647 : Int32)) % (9 : Int32))), .val (.ref r), .unset] [(.int (7 : Int32)), (.int ((x0 &&& (2147483647 : Int32)) % (9 : Int32)))])) t → Steps p.tables e below (s₁.setTop (entryFrame m #[(.int x0)] maxLocals)) t := by
      intro t k
      refine pw31 t ?_
      refine XS.icmpNo X30.here hx rfl (hb hby at_16) rfl (feq hc32).1 ?_
      show Steps p.tables e below (T30.setTop (mkF m 19 #[.val (.int x0), .val (.int ((x0 &&& (2147483647 : Int32)) % (9 : Int32))), .val (.ref r), .unset] [])) _
      refine XS.iloadN X30.here hx rfl (hb hby at_19) rfl ?_
      show Steps p.tables e below (T30.setTop (mkF m 20 #[.val (.int x0), .val (.int ((x0 &&& (2147483647 : Int32)) % (9 : Int32))), .val (.ref r), .unset] [(.int ((x0 &&& (2147483647 : Int32)) % (9 : Int32)))])) _
      refine XS.bipush X30.here hx rfl (hb hby at_20) ?_
      show Steps p.tables e below (T30.setTop (mkF m 22 #[.val (.int x0), .val (.int ((x0 &&& (2147483647 : Int32)) % (9 : Int32))), .val (.ref r), .unset] [(.int (7 : Int32)), (.int ((x0 &&& (2147483647 : Int32)) % (9 : Int32)))])) _
      exact k
    by_cases hc35 : ((x0 &&& (2147483647 : Int32)) % (9 : Int32)) = (7 : Int32)
    · skip
      obtain ⟨cq36, kq36, q36a, q36b, q36c⟩ := isOf hZ e30q E_r
      obtain ⟨_, _, ⟨T36, L36, k36, n36⟩, -, X36, ⟨Lc36, hQ36, l36, y36, z36⟩, st36⟩ := X30.virtualBack hx (y := (⟨"com/example/marginwright/marginwright/Rule", "isFraction", "()Z"⟩ : MethodName)) (z := (⟨"com/example/marginwright/marginwright/Rule", "isFraction", "()Z"⟩ : MethodName)) hown (mvT hZ (hw _ (List.mem_of_getElem? (i := 8) rfl))) (mvT hZ (hw _ (List.mem_of_getElem? (i := 9) rfl))) (notFace_of_selects (args := #[]) (mvT hZ (hw _ (List.mem_of_getElem? (i := 11) rfl)))) (mvT hZ (hw _ (List.mem_of_getElem? (i := 11) rfl))) (mvT hZ (hw _ (List.mem_of_getElem? (i := 10) rfl))) (by decide) (backOf (W := 0) (rm_2 l Z a0 hw [] r u f q h0 n0 Z0 S_f F_u hq) hZ (hw _ (List.mem_of_getElem? (i := 12) rfl)) (hw _ (List.mem_of_getElem? (i := 6) rfl)) (by decide) (by decide)) q36a q36c (g := (mkF m 32 #[.val (.int x0), .val (.int ((x0 &&& (2147483647 : Int32)) % (9 : Int32))), .val (.ref r), .val (.int (1 : Int32))] [(.ref r)])) rfl (by rw [hml]; rfl) (Steps.refl _) (argsL := []) (rest := []) (lenOf pd___Z rfl) rfl (by show 2 * 0 + _ ≤ _; exact Nat.le_of_eq rfl) (hb hby at_32) (fun _ _ => ⟨rfl, e30q, (by decide : 0 + 0 ≤ _), (by decide : 0 + 0 ≤ _)⟩)
      dsimp only [Pt.U, Pt.locs, Pt.cells, Pt.slots] at X36 l36 y36 z36 st36 hQ36
      subst l36 y36 z36
      obtain ⟨rfl, N36q, e36q⟩ := hQ36
      have N36 := Fr.app N30 N36q
      obtain ⟨fs, hr, hrun, hended, hW, hsame⟩ := X36.leave (v := some (.int (1 : Int32))) (fun h => by rw [Bd.returns] at h; cases h)
      refine ⟨_, _, pw34 _ ?_, hrun, hended, _, _, rfl, ?_, ⟨_, rfl⟩, hW, hsame.mono (by decide) (by decide)⟩
      · skip
        refine XS.icmpNo X30.here hx rfl (hb hby at_22) rfl (teq hc35).2 ?_
        show Steps p.tables e below (T30.setTop (mkF m 25 #[.val (.int x0), .val (.int ((x0 &&& (2147483647 : Int32)) % (9 : Int32))), .val (.ref r), .unset] [])) _
        refine XS.iconst X30.here hx rfl (hb hby at_25) ?_
        show Steps p.tables e below (T30.setTop (mkF m 26 #[.val (.int x0), .val (.int ((x0 &&& (2147483647 : Int32)) % (9 : Int32))), .val (.ref r), .unset] [(.int (1 : Int32))])) _
        refine XS.goto X30.here hx rfl (pc0 := 26) (pc' := 30) rfl (hb hby at_26) (by decide) (by decide) ?_
        show Steps p.tables e below (T30.setTop (mkF m 30 #[.val (.int x0), .val (.int ((x0 &&& (2147483647 : Int32)) % (9 : Int32))), .val (.ref r), .unset] [(.int (1 : Int32))])) _
        refine XS.istoreN X30.here hx rfl (hb hby at_30) rfl (l' := #[.val (.int x0), .val (.int ((x0 &&& (2147483647 : Int32)) % (9 : Int32))), .val (.ref r), .val (.int (1 : Int32))]) rfl ?_
        show Steps p.tables e below (T30.setTop (mkF m 31 #[.val (.int x0), .val (.int ((x0 &&& (2147483647 : Int32)) % (9 : Int32))), .val (.ref r), .val (.int (1 : Int32))] [])) _
        refine XS.aloadN X30.here hx rfl (hb hby at_31) rfl rfl ?_
        show Steps p.tables e below (T30.setTop (mkF m 32 #[.val (.int x0), .val (.int ((x0 &&& (2147483647 : Int32)) % (9 : Int32))), .val (.ref r), .val (.int (1 : Int32))] [(.ref r)])) _
        refine st36.trans ?_
        show Steps p.tables e below (T36.setTop (mkF m 35 #[.val (.int x0), .val (.int ((x0 &&& (2147483647 : Int32)) % (9 : Int32))), .val (.ref r), .val (.int (1 : Int32))] [(.int q)])) _
        refine XS.iloadN X36.here hx rfl (hb hby at_35) rfl ?_
        show Steps p.tables e below (T36.setTop (mkF m 36 #[.val (.int x0), .val (.int ((x0 &&& (2147483647 : Int32)) % (9 : Int32))), .val (.ref r), .val (.int (1 : Int32))] [(.int (1 : Int32)), (.int q)])) _
        refine XS.ifYes X36.here hx rfl (pc0 := 36) (pc' := 43) rfl (hb hby at_36) rfl ((if0 _ _).trans (feq (by decide : ¬ ((1 : Int32) = (0 : Int32)))).2) (by decide) (by decide) ?_
        show Steps p.tables e below (T36.setTop (mkF m 43 #[.val (.int x0), .val (.int ((x0 &&& (2147483647 : Int32)) % (9 : Int32))), .val (.ref r), .val (.int (1 : Int32))] [(.int q)])) _
        refine XS.iconst X36.here hx rfl (hb hby at_43) ?_
        show Steps p.tables e below (T36.setTop (mkF m 44 #[.val (.int x0), .val (.int ((x0 &&& (2147483647 : Int32)) % (9 : Int32))), .val (.ref r), .val (.int (1 : Int32))] [(.int (0 : Int32)), (.int q)])) _
        refine XS.icmpNo X36.here hx rfl (hb hby at_44) rfl (teq (he.symm.trans (by unfold own_exp; rw [if_neg hc32, if_pos hc35]) : q = (0 : Int32))).2 ?_
        show Steps p.tables e below (T36.setTop (mkF m 47 #[.val (.int x0), .val (.int ((x0 &&& (2147483647 : Int32)) % (9 : Int32))), .val (.ref r), .val (.int (1 : Int32))] [])) _
        refine XS.iconst X36.here hx rfl (hb hby at_47) ?_
        show Steps p.tables e below (T36.setTop (mkF m 48 #[.val (.int x0), .val (.int ((x0 &&& (2147483647 : Int32)) % (9 : Int32))), .val (.ref r), .val (.int (1 : Int32))] [(.int (1 : Int32))])) _
        refine XS.goto X36.here hx rfl (pc0 := 48) (pc' := 52) rfl (hb hby at_48) (by decide) (by decide) ?_
        show Steps p.tables e below (T36.setTop (mkF m 52 #[.val (.int x0), .val (.int ((x0 &&& (2147483647 : Int32)) % (9 : Int32))), .val (.ref r), .val (.int (1 : Int32))] [(.int (1 : Int32))])) _
        exact retN X36 hx (t := .boolean) Bd.returns (by simp) (hb hby at_52) hr
      · show Q_0 Z x0 b0 b1 b2 b3 b4 b5 b6 b7 b8 r u f q h0 n0 _ T36.heap _
        rw [e36q]
        exact ⟨rfl, N36⟩
    · skip
      obtain ⟨cq37, kq37, q37a, q37b, q37c⟩ := isOf hZ e30q E_r
      obtain ⟨_, _, ⟨T37, L37, k37, n37⟩, -, X37, ⟨Lc37, hQ37, l37, y37, z37⟩, st37⟩ := X30.virtualBack hx (y := (⟨"com/example/marginwright/marginwright/Rule", "isFraction", "()Z"⟩ : MethodName)) (z := (⟨"com/example/marginwright/marginwright/Rule", "isFraction", "()Z"⟩ : MethodName)) hown (mvT hZ (hw _ (List.mem_of_getElem? (i := 8) rfl))) (mvT hZ (hw _ (List.mem_of_getElem? (i := 9) rfl))) (notFace_of_selects (args := #[]) (mvT hZ (hw _ (List.mem_of_getElem? (i := 11) rfl)))) (mvT hZ (hw _ (List.mem_of_getElem? (i := 11) rfl))) (mvT hZ (hw _ (List.mem_of_getElem? (i := 10) rfl))) (by decide) (backOf (W := 0) (rm_2 l Z a0 hw [] r u f q h0 n0 Z0 S_f F_u hq) hZ (hw _ (List.mem_of_getElem? (i := 12) rfl)) (hw _ (List.mem_of_getElem? (i := 6) rfl)) (by decide) (by decide)) q37a q37c (g := (mkF m 32 #[.val (.int x0), .val (.int ((x0 &&& (2147483647 : Int32)) % (9 : Int32))), .val (.ref r), .val (.int (0 : Int32))] [(.ref r)])) rfl (by rw [hml]; rfl) (Steps.refl _) (argsL := []) (rest := []) (lenOf pd___Z rfl) rfl (by show 2 * 0 + _ ≤ _; exact Nat.le_of_eq rfl) (hb hby at_32) (fun _ _ => ⟨rfl, e30q, (by decide : 0 + 0 ≤ _), (by decide : 0 + 0 ≤ _)⟩)
      dsimp only [Pt.U, Pt.locs, Pt.cells, Pt.slots] at X37 l37 y37 z37 st37 hQ37
      subst l37 y37 z37
      obtain ⟨rfl, N37q, e37q⟩ := hQ37
      have N37 := Fr.app N30 N37q
      obtain ⟨fs, hr, hrun, hended, hW, hsame⟩ := X37.leave (v := some (.int (1 : Int32))) (fun h => by rw [Bd.returns] at h; cases h)
      refine ⟨_, _, pw34 _ ?_, hrun, hended, _, _, rfl, ?_, ⟨_, rfl⟩, hW, hsame.mono (by decide) (by decide)⟩
      · skip
        refine XS.icmpYes X30.here hx rfl (pc0 := 22) (pc' := 29) rfl (hb hby at_22) rfl (feq hc35).2 (by decide) (by decide) ?_
        show Steps p.tables e below (T30.setTop (mkF m 29 #[.val (.int x0), .val (.int ((x0 &&& (2147483647 : Int32)) % (9 : Int32))), .val (.ref r), .unset] [])) _
        refine XS.iconst X30.here hx rfl (hb hby at_29) ?_
        show Steps p.tables e below (T30.setTop (mkF m 30 #[.val (.int x0), .val (.int ((x0 &&& (2147483647 : Int32)) % (9 : Int32))), .val (.ref r), .unset] [(.int (0 : Int32))])) _
        refine XS.istoreN X30.here hx rfl (hb hby at_30) rfl (l' := #[.val (.int x0), .val (.int ((x0 &&& (2147483647 : Int32)) % (9 : Int32))), .val (.ref r), .val (.int (0 : Int32))]) rfl ?_
        show Steps p.tables e below (T30.setTop (mkF m 31 #[.val (.int x0), .val (.int ((x0 &&& (2147483647 : Int32)) % (9 : Int32))), .val (.ref r), .val (.int (0 : Int32))] [])) _
        refine XS.aloadN X30.here hx rfl (hb hby at_31) rfl rfl ?_
        show Steps p.tables e below (T30.setTop (mkF m 32 #[.val (.int x0), .val (.int ((x0 &&& (2147483647 : Int32)) % (9 : Int32))), .val (.ref r), .val (.int (0 : Int32))] [(.ref r)])) _
        refine st37.trans ?_
        show Steps p.tables e below (T37.setTop (mkF m 35 #[.val (.int x0), .val (.int ((x0 &&& (2147483647 : Int32)) % (9 : Int32))), .val (.ref r), .val (.int (0 : Int32))] [(.int q)])) _
        refine XS.iloadN X37.here hx rfl (hb hby at_35) rfl ?_
        show Steps p.tables e below (T37.setTop (mkF m 36 #[.val (.int x0), .val (.int ((x0 &&& (2147483647 : Int32)) % (9 : Int32))), .val (.ref r), .val (.int (0 : Int32))] [(.int (0 : Int32)), (.int q)])) _
        refine XS.ifNo X37.here hx rfl (hb hby at_36) rfl ((if0 _ _).trans (teq (by decide : (0 : Int32) = (0 : Int32))).2) ?_
        show Steps p.tables e below (T37.setTop (mkF m 39 #[.val (.int x0), .val (.int ((x0 &&& (2147483647 : Int32)) % (9 : Int32))), .val (.ref r), .val (.int (0 : Int32))] [(.int q)])) _
        refine XS.iconst X37.here hx rfl (hb hby at_39) ?_
        show Steps p.tables e below (T37.setTop (mkF m 40 #[.val (.int x0), .val (.int ((x0 &&& (2147483647 : Int32)) % (9 : Int32))), .val (.ref r), .val (.int (0 : Int32))] [(.int (1 : Int32)), (.int q)])) _
        refine XS.goto X37.here hx rfl (pc0 := 40) (pc' := 44) rfl (hb hby at_40) (by decide) (by decide) ?_
        show Steps p.tables e below (T37.setTop (mkF m 44 #[.val (.int x0), .val (.int ((x0 &&& (2147483647 : Int32)) % (9 : Int32))), .val (.ref r), .val (.int (0 : Int32))] [(.int (1 : Int32)), (.int q)])) _
        refine XS.icmpNo X37.here hx rfl (hb hby at_44) rfl (teq (he.symm.trans (by unfold own_exp; rw [if_neg hc32, if_neg hc35]) : q = (1 : Int32))).2 ?_
        show Steps p.tables e below (T37.setTop (mkF m 47 #[.val (.int x0), .val (.int ((x0 &&& (2147483647 : Int32)) % (9 : Int32))), .val (.ref r), .val (.int (0 : Int32))] [])) _
        refine XS.iconst X37.here hx rfl (hb hby at_47) ?_
        show Steps p.tables e below (T37.setTop (mkF m 48 #[.val (.int x0), .val (.int ((x0 &&& (2147483647 : Int32)) % (9 : Int32))), .val (.ref r), .val (.int (0 : Int32))] [(.int (1 : Int32))])) _
        refine XS.goto X37.here hx rfl (pc0 := 48) (pc' := 52) rfl (hb hby at_48) (by decide) (by decide) ?_
        show Steps p.tables e below (T37.setTop (mkF m 52 #[.val (.int x0), .val (.int ((x0 &&& (2147483647 : Int32)) % (9 : Int32))), .val (.ref r), .val (.int (0 : Int32))] [(.int (1 : Int32))])) _
        exact retN X37 hx (t := .boolean) Bd.returns (by simp) (hb hby at_52) hr
      · show Q_0 Z x0 b0 b1 b2 b3 b4 b5 b6 b7 b8 r u f q h0 n0 _ T37.heap _
        rw [e37q]
        exact ⟨rfl, N37⟩
set_option maxRecDepth 65536 in
set_option maxHeartbeats 40000000 in
theorem comes_1 {Post : Tables → Env → Array Value → State → Outcome → State → Prop} (hpost : ∀ tb e args s v u, (limb_1_1.after args s (.returned v) u = true ∧ limb_1_2.after args s (.returned v) u = true ∧ True) → FrameEnd s (.returned v) u (Jvm.fieldLocs frame_1_writes args s ++ Jvm.arrayLocs frame_1_arrays args s ++ Jvm.staticLocs frame_1_statics s) 0 0 → Post tb e args s (.returned v) u) :
    ArmFor flags0 classFile x code maxLocals ret World_1 tables_1 room_1 Calls_1 rest_1 Pre_1 Post := by
  intro l hfl _ _ p e ha hc hk s m args below hf hA hF happ hP
  obtain ⟨hcalls, hrest, hpre⟩ := hP
  obtain ⟨-, -, -, hnamed, -, -, -, hat⟩ := (Spec.applies_iff hf).mp happ
  obtain ⟨hg, hn⟩ := and_e (Cond.before_iff.mp (show (Jvm.Cond.and given_1 narrow_1).before args s = true from hpre))
  obtain ⟨g38, g39⟩ := and_e hg
  obtain ⟨w0, rfl⟩ : ∃ w0 : Value, args = #[w0] := by
    have hs : args.size = 1 := by simpa [Cond.value, given_1] using g38
    obtain ⟨L⟩ := args
    match L, hs with
    | [w0], _ => exact ⟨w0, rfl⟩
  have hw := fun d (hd : d ∈ tables_1) => atoms_spec (ws := Jvm.Cond.code x code maxLocals ret :: tables_1) hat d (List.mem_cons_of_mem _ hd)
  have hfit : Fit s := fun {y c} hc i hi => by
    obtain ⟨ha, rfl⟩ := Array.getElem?_eq_some_iff.mp hc
    have q := List.all_eq_true.mp ((Array.all_eq_true_iff_forall_mem.mp hF) _ (Array.getElem_mem ha)) i (List.mem_range.mpr hi)
    simpa [Array.getElem?_eq_getElem hi] using q
  obtain ⟨x0, ei0⟩ := is_v g39
  obtain rfl : w0 = (.int x0) := Option.some.inj ei0
  obtain ⟨g40, g41⟩ := and_e hn
  obtain ⟨g42, g43⟩ := and_e g41
  obtain ⟨g44, g45⟩ := and_e g43
  obtain ⟨g46, g47⟩ := and_e g45
  obtain ⟨g48, g49⟩ := and_e g47
  obtain ⟨g50, g51⟩ := and_e g49
  obtain ⟨g52, g53⟩ := and_e g51
  obtain ⟨g54, g55⟩ := and_e g53
  obtain ⟨g56, g57⟩ := and_e g55
  obtain ⟨g58, g59⟩ := and_e g57
  obtain ⟨g60, g61⟩ := and_e g59
  obtain ⟨g62, g63⟩ := and_e g61
  obtain ⟨g64, g65⟩ := and_e g63
  obtain ⟨g66, g67⟩ := and_e g65
  obtain ⟨g68, g69⟩ := and_e g67
  obtain ⟨g70, g71⟩ := and_e g69
  obtain ⟨g72, g73⟩ := and_e g71
  obtain ⟨g74, g75⟩ := and_e g73
  obtain ⟨g76, g77⟩ := and_e g75
  obtain ⟨g78, g79⟩ := and_e g77
  obtain ⟨g80, g81⟩ := and_e g79
  obtain ⟨a_LOCK_LIMIT_ADD_FIRST, ev_a_LOCK_LIMIT_ADD_FIRST⟩ := exa_v g40
  have E_a_LOCK_LIMIT_ADD_FIRST : Exa s s.heap a_LOCK_LIMIT_ADD_FIRST "com/example/marginwright/marginwright/Rule" := Exa.start ev_a_LOCK_LIMIT_ADD_FIRST g40
  have S_a_LOCK_LIMIT_ADD_FIRST : Sta s s.heap "com/example/marginwright/marginwright/Rule" "LOCK_LIMIT_ADD_FIRST" "Lcom/example/marginwright/marginwright/Rule;" (.ref a_LOCK_LIMIT_ADD_FIRST) := Sta.start ev_a_LOCK_LIMIT_ADD_FIRST (Or.inr ⟨(hw _ (List.mem_of_getElem? (i := 6) rfl)), (hw _ (List.mem_of_getElem? (i := 7) rfl))⟩)
  obtain ⟨a_FRACTION, ev_a_FRACTION⟩ := exa_v g42
  have E_a_FRACTION : Exa s s.heap a_FRACTION "com/example/marginwright/marginwright/Rule$Unit" := Exa.start ev_a_FRACTION g42
  have S_a_FRACTION : Sta s s.heap "com/example/marginwright/marginwright/Rule$Unit" "FRACTION" "Lcom/example/marginwright/marginwright/Rule$Unit;" (.ref a_FRACTION) := Sta.start ev_a_FRACTION (Or.inr ⟨(hw _ (List.mem_of_getElem? (i := 15) rfl)), (hw _ (List.mem_of_getElem? (i := 16) rfl))⟩)
  obtain ⟨a_REDUCTION_TIER_HIGH, ev_a_REDUCTION_TIER_HIGH⟩ := exa_v g46
  have E_a_REDUCTION_TIER_HIGH : Exa s s.heap a_REDUCTION_TIER_HIGH "com/example/marginwright/marginwright/Rule" := Exa.start ev_a_REDUCTION_TIER_HIGH g46
  have S_a_REDUCTION_TIER_HIGH : Sta s s.heap "com/example/marginwright/marginwright/Rule" "REDUCTION_TIER_HIGH" "Lcom/example/marginwright/marginwright/Rule;" (.ref a_REDUCTION_TIER_HIGH) := Sta.start ev_a_REDUCTION_TIER_HIGH (Or.inr ⟨(hw _ (List.mem_of_getElem? (i := 6) rfl)), (hw _ (List.mem_of_getElem? (i := 19) rfl))⟩)
  obtain ⟨a_LOCK_MARGIN_ADD, ev_a_LOCK_MARGIN_ADD⟩ := exa_v g50
  have E_a_LOCK_MARGIN_ADD : Exa s s.heap a_LOCK_MARGIN_ADD "com/example/marginwright/marginwright/Rule" := Exa.start ev_a_LOCK_MARGIN_ADD g50
  have S_a_LOCK_MARGIN_ADD : Sta s s.heap "com/example/marginwright/marginwright/Rule" "LOCK_MARGIN_ADD" "Lcom/example/marginwright/marginwright/Rule;" (.ref a_LOCK_MARGIN_ADD) := Sta.start ev_a_LOCK_MARGIN_ADD (Or.inr ⟨(hw _ (List.mem_of_getElem? (i := 6) rfl)), (hw _ (List.mem_of_getElem? (i := 21) rfl))⟩)
  obtain ⟨a_LOCK_LIMIT_ADD_SECOND, ev_a_LOCK_LIMIT_ADD_SECOND⟩ := exa_v g54
  have E_a_LOCK_LIMIT_ADD_SECOND : Exa s s.heap a_LOCK_LIMIT_ADD_SECOND "com/example/marginwright/marginwright/Rule" := Exa.start ev_a_LOCK_LIMIT_ADD_SECOND g54
  have S_a_LOCK_LIMIT_ADD_SECOND : Sta s s.heap "com/example/marginwright/marginwright/Rule" "LOCK_LIMIT_ADD_SECOND" "Lcom/example/marginwright/marginwright/Rule;" (.ref a_LOCK_LIMIT_ADD_SECOND) := Sta.start ev_a_LOCK_LIMIT_ADD_SECOND (Or.inr ⟨(hw _ (List.mem_of_getElem? (i := 6) rfl)), (hw _ (List.mem_of_getElem? (i := 23) rfl))⟩)
  obtain ⟨a_MINIMUM_RESERVE_BROKER_MEMBER, ev_a_MINIMUM_RESERVE_BROKER_MEMBER⟩ := exa_v g58
  have E_a_MINIMUM_RESERVE_BROKER_MEMBER : Exa s s.heap a_MINIMUM_RESERVE_BROKER_MEMBER "com/example/marginwright/marginwright/Rule" := Exa.start ev_a_MINIMUM_RESERVE_BROKER_MEMBER g58
  have S_a_MINIMUM_RESERVE_BROKER_MEMBER : Sta s s.heap "com/example/marginwright/marginwright/Rule" "MINIMUM_RESERVE_BROKER_MEMBER" "Lcom/example/marginwright/marginwright/Rule;" (.ref a_MINIMUM_RESERVE_BROKER_MEMBER) := Sta.start ev_a_MINIMUM_RESERVE_BROKER_MEMBER (Or.inr ⟨(hw _ (List.mem_of_getElem? (i := 6) rfl)), (hw _ (List.mem_of_getElem? (i := 25) rfl))⟩)
  obtain ⟨a_YUAN, ev_a_YUAN⟩ := exa_v g60
  have E_a_YUAN : Exa s s.heap a_YUAN "com/example/marginwright/marginwright/Rule$Unit" := Exa.start ev_a_YUAN g60
  have S_a_YUAN : Sta s s.heap "com/example/marginwright/marginwright/Rule$Unit" "YUAN" "Lcom/example/marginwright/marginwright/Rule$Unit;" (.ref a_YUAN) := Sta.start ev_a_YUAN (Or.inr ⟨(hw _ (List.mem_of_getElem? (i := 15) rfl)), (hw _ (List.mem_of_getElem? (i := 26) rfl))⟩)
  obtain ⟨a_REDUCTION_TIER_MID, ev_a_REDUCTION_TIER_MID⟩ := exa_v g68
  have E_a_REDUCTION_TIER_MID : Exa s s.heap a_REDUCTION_TIER_MID "com/example/marginwright/marginwright/Rule" := Exa.start ev_a_REDUCTION_TIER_MID g68
  have S_a_REDUCTION_TIER_MID : Sta s s.heap "com/example/marginwright/marginwright/Rule" "REDUCTION_TIER_MID" "Lcom/example/marginwright/marginwright/Rule;" (.ref a_REDUCTION_TIER_MID) := Sta.start ev_a_REDUCTION_TIER_MID (Or.inr ⟨(hw _ (List.mem_of_getElem? (i := 6) rfl)), (hw _ (List.mem_of_getElem? (i := 28) rfl))⟩)
  obtain ⟨a_LARGE_TRADER_REPORT_SHARE, ev_a_LARGE_TRADER_REPORT_SHARE⟩ := exa_v g72
  have E_a_LARGE_TRADER_REPORT_SHARE : Exa s s.heap a_LARGE_TRADER_REPORT_SHARE "com/example/marginwright/marginwright/Rule" := Exa.start ev_a_LARGE_TRADER_REPORT_SHARE g72
  have S_a_LARGE_TRADER_REPORT_SHARE : Sta s s.heap "com/example/marginwright/marginwright/Rule" "LARGE_TRADER_REPORT_SHARE" "Lcom/example/marginwright/marginwright/Rule;" (.ref a_LARGE_TRADER_REPORT_SHARE) := Sta.start ev_a_LARGE_TRADER_REPORT_SHARE (Or.inr ⟨(hw _ (List.mem_of_getElem? (i := 6) rfl)), (hw _ (List.mem_of_getElem? (i := 30) rfl))⟩)
  obtain ⟨a_MINIMUM_RESERVE_MEMBER, ev_a_MINIMUM_RESERVE_MEMBER⟩ := exa_v g76
  have E_a_MINIMUM_RESERVE_MEMBER : Exa s s.heap a_MINIMUM_RESERVE_MEMBER "com/example/marginwright/marginwright/Rule" := Exa.start ev_a_MINIMUM_RESERVE_MEMBER g76
  have S_a_MINIMUM_RESERVE_MEMBER : Sta s s.heap "com/example/marginwright/marginwright/Rule" "MINIMUM_RESERVE_MEMBER" "Lcom/example/marginwright/marginwright/Rule;" (.ref a_MINIMUM_RESERVE_MEMBER) := Sta.start ev_a_MINIMUM_RESERVE_MEMBER (Or.inr ⟨(hw _ (List.mem_of_getElem? (i := 6) rfl)), (hw _ (List.mem_of_getElem? (i := 32) rfl))⟩)
  obtain ⟨a_REDUCTION_HEDGE, ev_a_REDUCTION_HEDGE⟩ := exa_v g80
  have E_a_REDUCTION_HEDGE : Exa s s.heap a_REDUCTION_HEDGE "com/example/marginwright/marginwright/Rule" := Exa.start ev_a_REDUCTION_HEDGE g80
  have S_a_REDUCTION_HEDGE : Sta s s.heap "com/example/marginwright/marginwright/Rule" "REDUCTION_HEDGE" "Lcom/example/marginwright/marginwright/Rule;" (.ref a_REDUCTION_HEDGE) := Sta.start ev_a_REDUCTION_HEDGE (Or.inr ⟨(hw _ (List.mem_of_getElem? (i := 6) rfl)), (hw _ (List.mem_of_getElem? (i := 34) rfl))⟩)
  have U_a_LOCK_LIMIT_ADD_FIRST : Fld s s.heap a_LOCK_LIMIT_ADD_FIRST "com/example/marginwright/marginwright/Rule" "unit" "Lcom/example/marginwright/marginwright/Rule$Unit;" (.ref a_FRACTION) := own_fldR ev_a_LOCK_LIMIT_ADD_FIRST ev_a_FRACTION g44
  have U_a_REDUCTION_TIER_HIGH : Fld s s.heap a_REDUCTION_TIER_HIGH "com/example/marginwright/marginwright/Rule" "unit" "Lcom/example/marginwright/marginwright/Rule$Unit;" (.ref a_FRACTION) := own_fldR ev_a_REDUCTION_TIER_HIGH ev_a_FRACTION g48
  have U_a_LOCK_MARGIN_ADD : Fld s s.heap a_LOCK_MARGIN_ADD "com/example/marginwright/marginwright/Rule" "unit" "Lcom/example/marginwright/marginwright/Rule$Unit;" (.ref a_FRACTION) := own_fldR ev_a_LOCK_MARGIN_ADD ev_a_FRACTION g52
  have U_a_LOCK_LIMIT_ADD_SECOND : Fld s s.heap a_LOCK_LIMIT_ADD_SECOND "com/example/marginwright/marginwright/Rule" "unit" "Lcom/example/marginwright/marginwright/Rule$Unit;" (.ref a_FRACTION) := own_fldR ev_a_LOCK_LIMIT_ADD_SECOND ev_a_FRACTION g56
  have U_a_MINIMUM_RESERVE_BROKER_MEMBER : Fld s s.heap a_MINIMUM_RESERVE_BROKER_MEMBER "com/example/marginwright/marginwright/Rule" "unit" "Lcom/example/marginwright/marginwright/Rule$Unit;" (.ref a_YUAN) := own_fldR ev_a_MINIMUM_RESERVE_BROKER_MEMBER ev_a_YUAN g62
  have O_a_YUAN : Fld s s.heap a_YUAN "java/lang/Enum" "ordinal" "I" (.int (1 : Int32)) := own_fldI ev_a_YUAN g64
  have O_a_FRACTION : Fld s s.heap a_FRACTION "java/lang/Enum" "ordinal" "I" (.int (0 : Int32)) := own_fldI ev_a_FRACTION g66
  have U_a_REDUCTION_TIER_MID : Fld s s.heap a_REDUCTION_TIER_MID "com/example/marginwright/marginwright/Rule" "unit" "Lcom/example/marginwright/marginwright/Rule$Unit;" (.ref a_FRACTION) := own_fldR ev_a_REDUCTION_TIER_MID ev_a_FRACTION g70
  have U_a_LARGE_TRADER_REPORT_SHARE : Fld s s.heap a_LARGE_TRADER_REPORT_SHARE "com/example/marginwright/marginwright/Rule" "unit" "Lcom/example/marginwright/marginwright/Rule$Unit;" (.ref a_FRACTION) := own_fldR ev_a_LARGE_TRADER_REPORT_SHARE ev_a_FRACTION g74
  have U_a_MINIMUM_RESERVE_MEMBER : Fld s s.heap a_MINIMUM_RESERVE_MEMBER "com/example/marginwright/marginwright/Rule" "unit" "Lcom/example/marginwright/marginwright/Rule$Unit;" (.ref a_YUAN) := own_fldR ev_a_MINIMUM_RESERVE_MEMBER ev_a_YUAN g78
  have U_a_REDUCTION_HEDGE : Fld s s.heap a_REDUCTION_HEDGE "com/example/marginwright/marginwright/Rule" "unit" "Lcom/example/marginwright/marginwright/Rule$Unit;" (.ref a_FRACTION) := own_fldR ev_a_REDUCTION_HEDGE ev_a_FRACTION g81
  have ne_u : a_YUAN ≠ a_FRACTION := Fld.ne O_a_YUAN O_a_FRACTION (by decide)
  obtain ⟨r, u, q, E_r, F_u, hp, hq, he⟩ : ∃ (r u : Addr) (q : Int32), Exa s s.heap r "com/example/marginwright/marginwright/Rule" ∧ Fld s s.heap r "com/example/marginwright/marginwright/Rule" "unit" "Lcom/example/marginwright/marginwright/Rule$Unit;" (.ref u) ∧ own_pick ((x0 &&& 2147483647) % 9) a_LOCK_LIMIT_ADD_FIRST a_LOCK_LIMIT_ADD_SECOND a_LOCK_MARGIN_ADD a_REDUCTION_TIER_HIGH a_REDUCTION_TIER_MID a_REDUCTION_HEDGE a_MINIMUM_RESERVE_MEMBER a_MINIMUM_RESERVE_BROKER_MEMBER a_LARGE_TRADER_REPORT_SHARE = r ∧ own_frac u a_FRACTION = q ∧ own_exp ((x0 &&& 2147483647) % 9) = q := by
    rcases own_k x0 with hk | hk | hk | hk | hk | hk | hk | hk | hk <;> rw [hk]
    · exact ⟨a_LOCK_LIMIT_ADD_FIRST, a_FRACTION, 1, E_a_LOCK_LIMIT_ADD_FIRST, U_a_LOCK_LIMIT_ADD_FIRST, by simp [own_pick], by simp [own_frac], by decide⟩
    · exact ⟨a_LOCK_LIMIT_ADD_SECOND, a_FRACTION, 1, E_a_LOCK_LIMIT_ADD_SECOND, U_a_LOCK_LIMIT_ADD_SECOND, by simp [own_pick], by simp [own_frac], by decide⟩
    · exact ⟨a_LOCK_MARGIN_ADD, a_FRACTION, 1, E_a_LOCK_MARGIN_ADD, U_a_LOCK_MARGIN_ADD, by simp [own_pick], by simp [own_frac], by decide⟩
    · exact ⟨a_REDUCTION_TIER_HIGH, a_FRACTION, 1, E_a_REDUCTION_TIER_HIGH, U_a_REDUCTION_TIER_HIGH, by simp [own_pick], by simp [own_frac], by decide⟩
    · exact ⟨a_REDUCTION_TIER_MID, a_FRACTION, 1, E_a_REDUCTION_TIER_MID, U_a_REDUCTION_TIER_MID, by simp [own_pick], by simp [own_frac], by decide⟩
    · exact ⟨a_REDUCTION_HEDGE, a_FRACTION, 1, E_a_REDUCTION_HEDGE, U_a_REDUCTION_HEDGE, by simp [own_pick], by simp [own_frac], by decide⟩
    · exact ⟨a_MINIMUM_RESERVE_MEMBER, a_YUAN, 0, E_a_MINIMUM_RESERVE_MEMBER, U_a_MINIMUM_RESERVE_MEMBER, by simp [own_pick], by simp [own_frac, ne_u], by decide⟩
    · exact ⟨a_MINIMUM_RESERVE_BROKER_MEMBER, a_YUAN, 0, E_a_MINIMUM_RESERVE_BROKER_MEMBER, U_a_MINIMUM_RESERVE_BROKER_MEMBER, by simp [own_pick], by simp [own_frac, ne_u], by decide⟩
    · exact ⟨a_LARGE_TRADER_REPORT_SHARE, a_FRACTION, 1, E_a_LARGE_TRADER_REPORT_SHARE, U_a_LARGE_TRADER_REPORT_SHARE, by simp [own_pick], by simp [own_frac], by decide⟩
  obtain ⟨n, o, h1, h2, h3, _, L, rfl, ⟨rfl, N⟩, hq⟩ := rm_0 l s _ hw tables_1 x0 a_LOCK_LIMIT_ADD_FIRST a_LOCK_LIMIT_ADD_SECOND a_LOCK_MARGIN_ADD a_REDUCTION_TIER_HIGH a_REDUCTION_TIER_MID a_REDUCTION_HEDGE a_MINIMUM_RESERVE_MEMBER a_MINIMUM_RESERVE_BROKER_MEMBER a_LARGE_TRADER_REPORT_SHARE r u a_FRACTION q s.heap s.heap.size (Nat.le_refl _) S_a_LOCK_LIMIT_ADD_FIRST S_a_LOCK_LIMIT_ADD_SECOND S_a_LOCK_MARGIN_ADD S_a_REDUCTION_TIER_HIGH S_a_REDUCTION_TIER_MID S_a_REDUCTION_HEDGE S_a_MINIMUM_RESERVE_MEMBER S_a_MINIMUM_RESERVE_BROKER_MEMBER S_a_LARGE_TRADER_REPORT_SHARE S_a_FRACTION E_r F_u hp hq he p e ha hc hk s m _ below hf ((Spec.applies_iff_loose hf).mp happ).1 ⟨rfl, State.Warmed39.refl s, rfl⟩ trivial
  refine ⟨n, _, h1, h2, h3, hpost _ _ _ _ _ _ ⟨Cond.after_iff.mpr rfl, Cond.after_iff.mpr (eq_i res_at (Term.int_eval (1)) rfl), trivial⟩ ⟨hq.1, hq.2.1, (hq.2.2.sift fun y hy => Or.inr (N y hy)).mono (by decide) (by decide)⟩⟩
theorem main_1_1 : Claimed_1_1 := comes_1 fun _ _ _ _ _ _ h hF => ⟨h.1, hF⟩
theorem main_1_2 : Claimed_1_2 := comes_1 fun _ _ _ _ _ _ h hF => ⟨h.2.1, hF⟩
end Jvm.Pilot.@@N@@
namespace Jvm.Pilot.@@N@@
open Jvm Jvm.ClassFile Sem Op Lib Jvm.Free Jvm.Stand Jvm.Pilot.@@N@@.Jvm.D
/-! MADE BY PROGRAM (witnessworld.py) out of the Statement's table words and the real class files: 13 classes; the members and pool entries that the words name. The judged class is class 1, her method 1. -/
namespace start1
open Jvm.ClassFile
def u (s : String) : CpInfo := .utf8 (stringToUtf16 s)
/-- a pool by its gaps: so many unusable entries, then the entry; so many at the end -/
def gap : Nat → List CpInfo → List CpInfo
  | 0, r => r
  | n + 1, r => .unusable :: gap n r
def poolList (es : List (Nat × CpInfo)) (last : Nat) : List CpInfo := es.foldr (fun e r => gap e.1 (e.2 :: r)) (gap last [])
def pool (es : List (Nat × CpInfo)) (last : Nat) : Array CpInfo := ⟨poolList es last⟩
def fileOf (pool : Array CpInfo) (this : Nat) (attrs : Array Attribute := #[]) (ms : Array MethodInfo := #[]) (fl : Nat := 33) (sup : Nat := 0) (ifs : Array Nat := #[]) (fds : Array FieldInfo := #[]) : ClassFile where
  minorVersion := 0
  majorVersion := 65
  constantPool := pool
  accessFlags := fl
  thisClass := this
  superClass := sup
  interfaces := ifs
  fields := fds
  methods := ms
  attributes := attrs
def plain (name : String) (sup : Option ClassId) : Class where
  name := name
  kind := .ordinary
  loader := none
  accessFlags := 33
  super := sup
  interfaces := #[]
  cf := none
  fields := #[]
  methods := #[]
  instanceTypes := #[]
  staticTypes := #[]
  resolved := #[]
  callSites := []
  init := .initialized
  statics := none
  mirror := none

def pool0 : Array CpInfo := pool [(5, u "<init>"), (0, u "()V"), (1, .class_ 10), (1, u "java/lang/Object")] 113

def k0m0 : Method := { name := "<init>", desc := "()V", sig := { parameters := [], returnType := none }, accessFlags := 1, code := none }
/-- java/lang/Object -/
def k0 : Class := { plain "java/lang/Object" none with
  accessFlags := 33
  interfaces := #[]
  cf := some (fileOf pool0 8 #[] #[{ accessFlags := 1, nameIndex := 5, descriptorIndex := 6, attributes := #[] }] 33 0 #[] #[])
  fields := #[]
  methods := #[k0m0]
  instanceTypes := #[]
  staticTypes := #[]
  resolved := Array.replicate 124 none
  statics := none }

def pool1 : Array CpInfo := pool [(2, .class_ 4), (1, u "java/lang/Object"), (0, u "<init>"), (0, u "()V"), (0, .integer 2147483647), (0, .methodref 9 10), (0, .class_ 11), (0, .nameAndType 12 13), (0, u "com/example/marginwright/marginwright/RuleIsFractionPinLaw"), (0, u "pick"), (0, u "(I)Lcom/example/marginwright/marginwright/Rule;"), (0, .methodref 15 16), (0, .class_ 17), (0, .nameAndType 18 19), (0, u "com/example/marginwright/marginwright/Rule"), (0, u "isFraction"), (0, u "()Z"), (0, .fieldref 15 21), (0, .nameAndType 22 23), (0, u "LOCK_LIMIT_ADD_FIRST"), (0, u "Lcom/example/marginwright/marginwright/Rule;"), (0, .fieldref 15 25), (0, .nameAndType 26 23), (0, u "LOCK_LIMIT_ADD_SECOND"), (0, .fieldref 15 28), (0, .nameAndType 29 23), (0, u "LOCK_MARGIN_ADD"), (0, .fieldref 15 31), (0, .nameAndType 32 23), (0, u "REDUCTION_TIER_HIGH"), (0, .fieldref 15 34), (0, .nameAndType 35 23), (0, u "REDUCTION_TIER_MID"), (0, .fieldref 15 37), (0, .nameAndType 38 23), (0, u "REDUCTION_HEDGE"), (0, .fieldref 15 40), (0, .nameAndType 41 23), (0, u "MINIMUM_RESERVE_MEMBER"), (0, .fieldref 15 43), (0, .nameAndType 44 23), (0, u "MINIMUM_RESERVE_BROKER_MEMBER"), (0, .fieldref 15 46), (0, .nameAndType 47 23), (0, u "LARGE_TRADER_REPORT_SHARE"), (2, u "law"), (0, u "(I)Z")] 3

def k1m0 : Method := { name := "<init>", desc := "()V", sig := { parameters := [], returnType := none }, accessFlags := 1, code := none }
def k1c1 : Code := { maxStack := 2, maxLocals := 4, code := code, exceptionTable := #[], attributes := #[] }
def k1m1 : Method := { name := "law", desc := "(I)Z", sig := { parameters := [.int], returnType := some .boolean }, accessFlags := 9, code := some k1c1 }
def k1c2 : Code := { maxStack := 2, maxLocals := 1, code := method_3_code, exceptionTable := #[], attributes := #[] }
def k1m2 : Method := { name := "pick", desc := "(I)Lcom/example/marginwright/marginwright/Rule;", sig := { parameters := [.int], returnType := some (.object "com/example/marginwright/marginwright/Rule") }, accessFlags := 10, code := some k1c2 }
/-- com/example/marginwright/marginwright/RuleIsFractionPinLaw -/
def k1 : Class := { plain "com/example/marginwright/marginwright/RuleIsFractionPinLaw" (some 0) with
  accessFlags := 49
  interfaces := #[]
  cf := some (fileOf pool1 9 #[] #[{ accessFlags := 1, nameIndex := 5, descriptorIndex := 6, attributes := #[] }, { accessFlags := 9, nameIndex := 50, descriptorIndex := 51, attributes := #[] }, { accessFlags := 10, nameIndex := 12, descriptorIndex := 13, attributes := #[] }] 49 2 #[] #[])
  fields := #[]
  methods := #[k1m0, k1m1, k1m2]
  instanceTypes := #[]
  staticTypes := #[]
  resolved := Array.replicate 55 none
  statics := none }

def pool2 : Array CpInfo := pool [(1, .class_ 2), (0, u "java/lang/constant/Constable"), (0, .class_ 4), (0, u "java/lang/Object")] 6

/-- java/lang/constant/Constable -/
def k2 : Class := { plain "java/lang/constant/Constable" (some 0) with
  accessFlags := 1537
  interfaces := #[]
  cf := some (fileOf pool2 1 #[] #[] 1537 3 #[] #[])
  fields := #[]
  methods := #[]
  instanceTypes := #[]
  staticTypes := #[]
  resolved := Array.replicate 11 none
  statics := none }

def pool3 : Array CpInfo := pool [(1, .class_ 2), (0, u "java/lang/Comparable"), (0, .class_ 4), (0, u "java/lang/Object")] 7

/-- java/lang/Comparable -/
def k3 : Class := { plain "java/lang/Comparable" (some 0) with
  accessFlags := 1537
  interfaces := #[]
  cf := some (fileOf pool3 1 #[] #[] 1537 3 #[] #[])
  fields := #[]
  methods := #[]
  instanceTypes := #[]
  staticTypes := #[]
  resolved := Array.replicate 12 none
  statics := none }

def pool4 : Array CpInfo := pool [(1, .class_ 2), (0, u "java/io/Serializable"), (0, .class_ 4), (0, u "java/lang/Object")] 2

/-- java/io/Serializable -/
def k4 : Class := { plain "java/io/Serializable" (some 0) with
  accessFlags := 1537
  interfaces := #[]
  cf := some (fileOf pool4 1 #[] #[] 1537 3 #[] #[])
  fields := #[]
  methods := #[]
  instanceTypes := #[]
  staticTypes := #[]
  resolved := Array.replicate 7 none
  statics := none }

def pool5 : Array CpInfo := pool [(2, .class_ 4), (1, u "java/lang/Enum"), (0, u "name"), (0, u "Ljava/lang/String;"), (2, u "ordinal"), (0, u "I"), (1, .class_ 14), (1, u "java/lang/Object"), (4, u "hash"), (86, .class_ 108), (1, u "java/lang/Enum$EnumDesc"), (2, .class_ 112), (0, u "java/lang/constant/Constable"), (0, .class_ 114), (0, u "java/lang/Comparable"), (0, .class_ 116), (0, u "java/io/Serializable")] 87

/-- java/lang/Enum -/
def k5 : Class := { plain "java/lang/Enum" (some 0) with
  accessFlags := 1057
  interfaces := #[2, 3, 4]
  cf := some (fileOf pool5 2 #[.nestMembers #[106]] #[] 1057 12 #[111, 113, 115] #[{ accessFlags := 18, nameIndex := 5, descriptorIndex := 6, attributes := #[] }, { accessFlags := 18, nameIndex := 9, descriptorIndex := 10, attributes := #[] }, { accessFlags := 2, nameIndex := 19, descriptorIndex := 10, attributes := #[] }])
  fields := #[{ name := "name", type := (.object "java/lang/String"), accessFlags := 18, slot := 0, constantValue := 0 }, { name := "ordinal", type := .int, accessFlags := 18, slot := 1, constantValue := 0 }, { name := "hash", type := .int, accessFlags := 2, slot := 2, constantValue := 0 }]
  methods := #[]
  instanceTypes := #[(.object "java/lang/String"), .int, .int]
  staticTypes := #[]
  resolved := Array.replicate 204 none
  statics := none }

def pool6 : Array CpInfo := pool [(1, .class_ 2), (0, u "com/example/marginwright/marginwright/Rule"), (2, u "LOCK_LIMIT_ADD_FIRST"), (0, u "Lcom/example/marginwright/marginwright/Rule;"), (2, u "LOCK_LIMIT_ADD_SECOND"), (2, u "LOCK_MARGIN_ADD"), (2, u "REDUCTION_TIER_HIGH"), (2, u "REDUCTION_TIER_MID"), (2, u "REDUCTION_HEDGE"), (2, u "MINIMUM_RESERVE_MEMBER"), (2, u "MINIMUM_RESERVE_BROKER_MEMBER"), (2, u "LARGE_TRADER_REPORT_SHARE"), (2, u "$VALUES"), (0, u "[Lcom/example/marginwright/marginwright/Rule;"), (6, .class_ 43), (1, u "java/lang/Enum"), (6, .fieldref 1 51), (0, .nameAndType 52 53), (0, u "unit"), (0, u "Lcom/example/marginwright/marginwright/Rule$Unit;"), (0, .fieldref 55 56), (0, .class_ 57), (0, .nameAndType 58 53), (0, u "com/example/marginwright/marginwright/Rule$Unit"), (0, u "FRACTION"), (26, u "isFraction"), (0, u "()Z")] 9

def k6c0 : Code := { maxStack := 2, maxLocals := 1, code := prog_21_method_4_code, exceptionTable := #[], attributes := #[] }
def k6m0 : Method := { name := "isFraction", desc := "()Z", sig := { parameters := [], returnType := some .boolean }, accessFlags := 0, code := some k6c0 }
/-- com/example/marginwright/marginwright/Rule -/
def k6 : Class := { plain "com/example/marginwright/marginwright/Rule" (some 5) with
  accessFlags := 16432
  interfaces := #[]
  cf := some (fileOf pool6 1 #[.nestMembers #[55]] #[{ accessFlags := 0, nameIndex := 85, descriptorIndex := 86, attributes := #[] }] 16432 41 #[] #[{ accessFlags := 16409, nameIndex := 5, descriptorIndex := 6, attributes := #[] }, { accessFlags := 16409, nameIndex := 9, descriptorIndex := 6, attributes := #[] }, { accessFlags := 16409, nameIndex := 12, descriptorIndex := 6, attributes := #[] }, { accessFlags := 16409, nameIndex := 15, descriptorIndex := 6, attributes := #[] }, { accessFlags := 16409, nameIndex := 18, descriptorIndex := 6, attributes := #[] }, { accessFlags := 16409, nameIndex := 21, descriptorIndex := 6, attributes := #[] }, { accessFlags := 16409, nameIndex := 24, descriptorIndex := 6, attributes := #[] }, { accessFlags := 16409, nameIndex := 27, descriptorIndex := 6, attributes := #[] }, { accessFlags := 16409, nameIndex := 30, descriptorIndex := 6, attributes := #[] }, { accessFlags := 18, nameIndex := 52, descriptorIndex := 53, attributes := #[] }, { accessFlags := 4122, nameIndex := 33, descriptorIndex := 34, attributes := #[] }])
  fields := #[{ name := "LOCK_LIMIT_ADD_FIRST", type := (.object "com/example/marginwright/marginwright/Rule"), accessFlags := 16409, slot := 0, constantValue := 0 }, { name := "LOCK_LIMIT_ADD_SECOND", type := (.object "com/example/marginwright/marginwright/Rule"), accessFlags := 16409, slot := 1, constantValue := 0 }, { name := "LOCK_MARGIN_ADD", type := (.object "com/example/marginwright/marginwright/Rule"), accessFlags := 16409, slot := 2, constantValue := 0 }, { name := "REDUCTION_TIER_HIGH", type := (.object "com/example/marginwright/marginwright/Rule"), accessFlags := 16409, slot := 3, constantValue := 0 }, { name := "REDUCTION_TIER_MID", type := (.object "com/example/marginwright/marginwright/Rule"), accessFlags := 16409, slot := 4, constantValue := 0 }, { name := "REDUCTION_HEDGE", type := (.object "com/example/marginwright/marginwright/Rule"), accessFlags := 16409, slot := 5, constantValue := 0 }, { name := "MINIMUM_RESERVE_MEMBER", type := (.object "com/example/marginwright/marginwright/Rule"), accessFlags := 16409, slot := 6, constantValue := 0 }, { name := "MINIMUM_RESERVE_BROKER_MEMBER", type := (.object "com/example/marginwright/marginwright/Rule"), accessFlags := 16409, slot := 7, constantValue := 0 }, { name := "LARGE_TRADER_REPORT_SHARE", type := (.object "com/example/marginwright/marginwright/Rule"), accessFlags := 16409, slot := 8, constantValue := 0 }, { name := "unit", type := (.object "com/example/marginwright/marginwright/Rule$Unit"), accessFlags := 18, slot := 3, constantValue := 0 }, { name := "$VALUES", type := (.array (.object "com/example/marginwright/marginwright/Rule")), accessFlags := 4122, slot := 9, constantValue := 0 }]
  methods := #[k6m0]
  instanceTypes := #[(.object "java/lang/String"), .int, .int, (.object "com/example/marginwright/marginwright/Rule$Unit")]
  staticTypes := #[(.object "com/example/marginwright/marginwright/Rule"), (.object "com/example/marginwright/marginwright/Rule"), (.object "com/example/marginwright/marginwright/Rule"), (.object "com/example/marginwright/marginwright/Rule"), (.object "com/example/marginwright/marginwright/Rule"), (.object "com/example/marginwright/marginwright/Rule"), (.object "com/example/marginwright/marginwright/Rule"), (.object "com/example/marginwright/marginwright/Rule"), (.object "com/example/marginwright/marginwright/Rule"), (.array (.object "com/example/marginwright/marginwright/Rule"))]
  resolved := Array.replicate 96 none
  statics := some 0 }

def pool7 : Array CpInfo := pool [(1, .class_ 2), (0, u "com/example/marginwright/marginwright/Rule$Unit"), (2, u "FRACTION"), (0, u "Lcom/example/marginwright/marginwright/Rule$Unit;"), (2, u "YUAN"), (2, u "$VALUES"), (0, u "[Lcom/example/marginwright/marginwright/Rule$Unit;"), (6, .class_ 22), (1, u "java/lang/Enum"), (25, .class_ 49), (0, u "com/example/marginwright/marginwright/Rule")] 2

/-- com/example/marginwright/marginwright/Rule$Unit -/
def k7 : Class := { plain "com/example/marginwright/marginwright/Rule$Unit" (some 5) with
  accessFlags := 16432
  interfaces := #[]
  cf := some (fileOf pool7 1 #[.nestHost 48] #[] 16432 20 #[] #[{ accessFlags := 16409, nameIndex := 5, descriptorIndex := 6, attributes := #[] }, { accessFlags := 16409, nameIndex := 9, descriptorIndex := 6, attributes := #[] }, { accessFlags := 4122, nameIndex := 12, descriptorIndex := 13, attributes := #[] }])
  fields := #[{ name := "FRACTION", type := (.object "com/example/marginwright/marginwright/Rule$Unit"), accessFlags := 16409, slot := 0, constantValue := 0 }, { name := "YUAN", type := (.object "com/example/marginwright/marginwright/Rule$Unit"), accessFlags := 16409, slot := 1, constantValue := 0 }, { name := "$VALUES", type := (.array (.object "com/example/marginwright/marginwright/Rule$Unit")), accessFlags := 4122, slot := 2, constantValue := 0 }]
  methods := #[]
  instanceTypes := #[(.object "java/lang/String"), .int, .int]
  staticTypes := #[(.object "com/example/marginwright/marginwright/Rule$Unit"), (.object "com/example/marginwright/marginwright/Rule$Unit"), (.array (.object "com/example/marginwright/marginwright/Rule$Unit"))]
  resolved := Array.replicate 52 none
  statics := some 1 }

def pool8 : Array CpInfo := pool [(1, u "java/lang/Cloneable"), (0, .class_ 1), (0, u "java/lang/Object"), (0, .class_ 3)] 3

/-- java/lang/Cloneable -/
def k8 : Class := { plain "java/lang/Cloneable" (some 0) with
  accessFlags := 1537
  interfaces := #[]
  cf := some (fileOf pool8 2 #[] #[] 1537 4 #[] #[])
  fields := #[]
  methods := #[]
  instanceTypes := #[]
  staticTypes := #[]
  resolved := Array.replicate 8 none
  statics := none }

/-- the primitive byte -/
def k9 : Class := { plain "byte" none with kind := .primitive 'B', accessFlags := 0x411 }
/-- [B -/
def k10 : Class := { plain "[B" (some 0) with kind := .array 9 .byte, interfaces := #[8, 4], accessFlags := 1041 }

/-- the primitive int -/
def k11 : Class := { plain "int" none with kind := .primitive 'I', accessFlags := 0x411 }
/-- [I -/
def k12 : Class := { plain "[I" (some 0) with kind := .array 11 .int, interfaces := #[8, 4], accessFlags := 1041 }

def heap : Heap := #[{ cls := 6, slots := #[.ref 2, .ref 6, .ref 5, .ref 4, .ref 9, .ref 12, .ref 11, .ref 7, .ref 10, .null], vm := .statics 6 },
  { cls := 7, slots := #[.ref 3, .ref 8, .null], vm := .statics 7 },
  { cls := 6, slots := #[.null, .int 0, .int 0, .ref 3], vm := .none },
  { cls := 7, slots := #[.null, .int 0, .int 0], vm := .none },
  { cls := 6, slots := #[.null, .int 0, .int 0, .ref 3], vm := .none },
  { cls := 6, slots := #[.null, .int 0, .int 0, .ref 3], vm := .none },
  { cls := 6, slots := #[.null, .int 0, .int 0, .ref 3], vm := .none },
  { cls := 6, slots := #[.null, .int 0, .int 0, .ref 8], vm := .none },
  { cls := 7, slots := #[.null, .int 1, .int 0], vm := .none },
  { cls := 6, slots := #[.null, .int 0, .int 0, .ref 3], vm := .none },
  { cls := 6, slots := #[.null, .int 0, .int 0, .ref 3], vm := .none },
  { cls := 6, slots := #[.null, .int 0, .int 0, .ref 8], vm := .none },
  { cls := 6, slots := #[.null, .int 0, .int 0, .ref 3], vm := .none }]
def classes : Array Class := #[k0, k1, k2, k3, k4, k5, k6, k7, k8, k9, k10, k11, k12]
def interned : List (Array UInt16 × Addr) := []
def slotsUsed : Nat := 55
def theMethod : MethodId := ⟨1, 1⟩
def args0 : Array Value := #[.int 5]
def aboutOver (below : List Frame) : State where
  vm := { classes := classes, interned := interned.toArray }
  heap := heap
  slotsUsed := slotsUsed
  threads := #[{ frames := .invoking theMethod args0 :: below }]
def below0 : List Frame := [.native { method := ⟨0, 0⟩, args := #[] }]
def about1 : State := aboutOver below0
def p0 : Program := .bare "" "" ""
def e0 : Env := launch0.env 0 0 0
theorem w_frames : about1.frames = Frame.invoking theMethod args0 :: below0 := rfl
set_option maxRecDepth 65536 in
theorem w_args : argsFit about1.vm theMethod args0 = true := by decide +kernel
set_option maxRecDepth 65536 in
theorem w_heap : heapFits about1 = true := by decide +kernel
set_option maxRecDepth 65536 in
theorem w_runnable : about1.curStatus? = some .runnable := by decide +kernel
set_option maxRecDepth 65536 in
theorem w_alone : about1.alone = true := by decide +kernel
set_option maxRecDepth 65536 in
theorem w_named : about1.methodNamed? x = some theMethod := by decide +kernel
set_option maxRecDepth 65536 in
theorem w_hears : about1.hears theMethod below0 = true := by decide +kernel
set_option maxRecDepth 65536 in
theorem w_ripe : about1.ripe theMethod args0 below0 = true := by decide +kernel
theorem w_running : about1.status = .running := rfl
set_option maxRecDepth 65536 in
theorem w_room : about1.hasRoom e0.platform room_1 = true :=
  launch0.hasRoom_least _ room_1 (by decide +kernel) (by decide +kernel) (by decide +kernel) (by decide +kernel) (by decide +kernel) (by decide +kernel)
theorem allAtoms_all (ts : List Jvm.Cond) (a : Array Jvm.Value) (st : Jvm.State) : (allAtoms ts).before a st = ts.all (fun c => c.before a st) := by
  induction ts with
  | nil => rfl
  | cons c t ih =>
    show (Jvm.Cond.and c (allAtoms t)).before a st = _
    rw [Jvm.Cond.before_and, ih, List.all_cons]
def words1 : List Jvm.Cond := Jvm.Cond.code x code maxLocals ret :: tables_1
/-- a 'code' word, met by the world's own term for the bytes: nothing is compared byte by byte -/
theorem code_word {y : MethodName} {bytes : ByteArray} {mx : Nat} {rt : Option FieldType} {a : Array Value} {s : State} {m : MethodId} {meth : Method} {c : Code} (h1 : s.methodNamed? y = some m) (h2 : s.vm.method? m = some meth) (h3 : meth.code = some c) (h4 : c.code = bytes)
    (h5 : (c.maxLocals == mx && c.exceptionTable.isEmpty && decide (c.maxStack ≤ mostOperands) && decide (meth.sig.returnType = rt) && !meth.locks && decide (parseMethodDescriptor y.desc = some meth.sig)) = true) : (Jvm.Cond.code y bytes mx rt).before a s = true := by
  simp only [Bool.and_eq_true, beq_iff_eq, Bool.not_eq_true', decide_eq_true_eq] at h5
  obtain ⟨⟨⟨⟨⟨g1, g2⟩, g3⟩, g4⟩, g5⟩, g6⟩ := h5
  simp [Cond.before, Cond.holds, Cond.value, h1, h2, h3, h4, g1, g2, g3, g4, g5, g6]
def isCode : Jvm.Cond → Bool
  | .code _ _ _ _ => true
  | _ => false
theorem all_split {L : List Jvm.Cond} {P : Jvm.Cond → Bool} (h1 : L.all (fun c => isCode c || P c) = true) (h2 : ∀ c ∈ L.filter isCode, P c = true) : L.all P = true := by
  refine List.all_eq_true.mpr fun c hc => ?_
  have h := List.all_eq_true.mp h1 c hc
  rcases Bool.eq_false_or_eq_true (isCode c) with hi | hi
  · exact h2 c (List.mem_filter.mpr ⟨hc, hi⟩)
  · simpa [hi] using h
set_option maxRecDepth 65536 in
theorem w_c0 : (Jvm.Cond.code x code maxLocals ret).before args0 about1 = true := code_word (m := ⟨1, 1⟩) (meth := k1m1) (c := k1c1) (by decide +kernel) rfl rfl rfl (by decide +kernel)
set_option maxRecDepth 65536 in
theorem w_c1 : (Jvm.Cond.code ({ cls := "com/example/marginwright/marginwright/RuleIsFractionPinLaw", name := "pick", desc := "(I)Lcom/example/marginwright/marginwright/Rule;" } : Jvm.MethodName) method_3_code (1 : Nat) (Option.some (Jvm.ClassFile.FieldType.object "com/example/marginwright/marginwright/Rule"))).before args0 about1 = true := code_word (m := ⟨1, 2⟩) (meth := k1m2) (c := k1c2) (by decide +kernel) rfl rfl rfl (by decide +kernel)
set_option maxRecDepth 65536 in
theorem w_c2 : (Jvm.Cond.code ({ cls := "com/example/marginwright/marginwright/Rule", name := "isFraction", desc := "()Z" } : Jvm.MethodName) prog_21_method_4_code (1 : Nat) (Option.some Jvm.ClassFile.FieldType.boolean)).before args0 about1 = true := code_word (m := ⟨6, 0⟩) (meth := k6m0) (c := k6c0) (by decide +kernel) rfl rfl rfl (by decide +kernel)
def codes1 : List Jvm.Cond := [Jvm.Cond.code x code maxLocals ret, Jvm.Cond.code ({ cls := "com/example/marginwright/marginwright/RuleIsFractionPinLaw", name := "pick", desc := "(I)Lcom/example/marginwright/marginwright/Rule;" } : Jvm.MethodName) method_3_code (1 : Nat) (Option.some (Jvm.ClassFile.FieldType.object "com/example/marginwright/marginwright/Rule")), Jvm.Cond.code ({ cls := "com/example/marginwright/marginwright/Rule", name := "isFraction", desc := "()Z" } : Jvm.MethodName) prog_21_method_4_code (1 : Nat) (Option.some Jvm.ClassFile.FieldType.boolean)]
set_option maxRecDepth 65536 in
theorem codes_eq : words1.filter isCode = codes1 := rfl
theorem w_codes : ∀ c ∈ words1.filter isCode, c.before args0 about1 = true := by
  rw [codes_eq]
  intro c hc
  simp only [codes1, List.mem_cons, List.not_mem_nil, or_false] at hc
  rcases hc with rfl | rfl | rfl
  · exact w_c0
  · exact w_c1
  · exact w_c2
set_option maxRecDepth 65536 in
theorem w_t1 : (words1.take 24).all (fun c => isCode c || c.before args0 about1) = true := by decide +kernel
set_option maxRecDepth 65536 in
theorem w_t2 : (words1.drop 24).all (fun c => isCode c || c.before args0 about1) = true := by decide +kernel
theorem w_tables : (allAtoms (Jvm.Cond.code x code maxLocals ret :: tables_1)).before args0 about1 = true := by
  rw [allAtoms_all]
  show words1.all (fun c => c.before args0 about1) = true
  refine all_split ?_ w_codes
  rw [← List.take_append_drop 24 words1, List.all_append, w_t1, w_t2]
  rfl
set_option maxRecDepth 65536 in
theorem w_case : (Jvm.Cond.and given_1 narrow_1).before args0 about1 = true := by decide +kernel
theorem w_applies : (headSpec (Jvm.Cond.code x code maxLocals ret :: tables_1) room_1).applies x e0.platform about1 = true :=
  (Spec.applies_iff w_frames).mpr ⟨w_running, w_runnable, w_alone, w_named, w_hears, w_ripe, w_room, w_tables⟩
theorem atStart : AtStart classFile x code maxLocals ret World_1 tables_1 room_1 Calls_1 rest_1 Pre_1 launch0 p0 e0 about1 theMethod args0 below0 :=
  ⟨lists_1, trivial, launch0.admits_env _ _ _, launch0.least_env, fairChoices_fair.cas, fairChoices_fair.clock, w_frames, w_args, w_heap, w_applies, trivial, trivial, w_case⟩
end start1
theorem witness_1 : WitnessClaimed_1 := ⟨start1.p0, start1.e0, start1.about1, start1.theMethod, start1.args0, start1.below0, start1.atStart⟩
end Jvm.Pilot.@@N@@
