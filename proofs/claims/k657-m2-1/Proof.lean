import JvmDerived
import JvmDerived.Pilot.@@N@@Statement
import JvmDerived.Pilot.@@N@@Code
set_option linter.unusedVariables false
set_option linter.unusedSimpArgs false
namespace Jvm.RoadKit
open Sem ClassFile Op Lib Jvm.Stand Jvm.Free Jvm.LawKit
section New
variable {p : Program} {l : Launch} {e : Env} {R : Room} {s : State} {m : MethodId} {args : Array Value} {below : List Frame} {meth : Method} {c : Code} {T : State} {locs : List Loc} {cells slots : Nat}
theorem retI (X : Stand p l e R s m args below meth c T locs cells slots) (hx : p.tables.exec = Jvm.exec) {pc : Nat} {Ls : Array Slot} {z : Int32} {rest : List Value} (hret : meth.sig.returnType = some .int) (hd : decode c.code pc = .ok (.ireturn, 1)) {fs : List Frame}
    (hl : ∀ (f : JFrame) (acts : List Action), f.method = m → f.locked = none → f.entered = [] → (doReturn e (T.setTop f) acts (some (.int z))).1 = T.setFrames fs) : Steps p.tables e below (T.setTop (mkF m pc Ls (.int z :: rest))) (T.setFrames fs) := by
  have hm' : T.vm.method? m = some meth := X.method'
  have hn : narrow .int (.int z) = .int z := rfl
  show Steps p.tables e below (T.setTop { method := m, pc := pc, locals := Ls, stack := _ :: rest, locked := none }) _
  jvm_step X.here [X.here.top, hx, hd, hm', hret, hn]
  first | (intro acts; rw [hl _ acts rfl rfl rfl]) | rw [hl _ _ rfl rfl rfl]
  exact Steps.refl _
end New
variable {Z : State} {h h' : Heap} {C n d : String} {v w : Value} {ws : List Addr}
theorem own_staKeep (F : Sta Z h C n d v) (K : Keep h h' ws) (q : ∀ x ∈ ws, ∀ c : Cell, h[x]? = some c → c.vm.isStatics = false) : Sta Z h' C n d v := by
  obtain ⟨cf, i, k, f, st, cell, h1, h2, h3, h4, h5, h6, h7⟩ := F
  refine ⟨cf, i, k, f, st, cell, h1, h2, h3, h4, K.2.1 _ _ h5 (fun r => ?_), h6, h7⟩
  rw [q _ r _ h5] at h6; cases h6
theorem own_staNew {n0 : Nat} (F : Sta Z h C n d v) (K : Keep h h' ws) (hn : ∀ x ∈ ws, n0 ≤ x) (hs : ∀ (x : Addr) (c : Cell), h[x]? = some c → c.vm.isStatics = true → x < n0) : Sta Z h' C n d v := by
  obtain ⟨cf, i, k, f, st, cell, h1, h2, h3, h4, h5, h6, h7⟩ := F
  exact ⟨cf, i, k, f, st, cell, h1, h2, h3, h4, K.2.1 _ _ h5 (fun r => absurd (hs _ _ h5 h6) (Nat.not_lt.mpr (hn _ r))), h6, h7⟩
theorem own_fldI {args : Array Value} {s : State} {t : Term} {a : Addr} {C n d : String} {k : Int32} (ht : t.eval args s none [] s = some (.ref a)) (h : (Cond.eq (.field t C n d) (.int k)).value args s none s [] = some true) : Fld s s.heap a C n d (.int k) := Fld.start ((fld_at ht).symm.trans (eqv_i rfl h))
theorem own_fldR {args : Array Value} {s : State} {t u : Term} {a b : Addr} {C n d : String} (ht : t.eval args s none [] s = some (.ref a)) (hu : u.eval args s none [] s = some (.ref b)) (h : (Cond.eq (.field t C n d) u).value args s none s [] = some true) : Fld s s.heap a C n d (.ref b) := by
  obtain ⟨x, y, ex, ey, kx, ky⟩ := cmp_v (Or.inl h)
  have e1 : s.fieldOf? a C n d = some x := by rw [← fld_at ht]; exact ex
  cases hu.symm.trans ey
  have q : x = .ref b := by
    cases x <;> simp [Cond.value, ex, hu] at h ⊢
    exact h
  exact Fld.start (by rw [e1, q])
theorem own_staL {args : Array Value} {s : State} {C n d : String} {k : Int64} (h : (Cond.eq (.static C n d) (.long k)).value args s none s [] = some true) : (Term.static C n d).eval args s none [] s = some (.long k) := eqv_l rfl h
end Jvm.RoadKit
namespace Jvm.Pilot.@@N@@
open Jvm Jvm.ClassFile Sem Op Lib Jvm.Free Jvm.Stand Jvm.LawKit Jvm.RoadKit Bundle Jvm.Pilot.@@N@@.Jvm.D
theorem pd___I : parseMethodDescriptor "()I" = some ⟨[], some .int⟩ := by decide +kernel
theorem pd__I_Lcom_example_brisk_tune_brisktune_music_Model_ : parseMethodDescriptor "(I)Lcom/example/brisk_tune/brisktune/music/Model;" = some ⟨[.int], some (.object "com/example/brisk_tune/brisktune/music/Model")⟩ := by decide +kernel
theorem own_k (x : Int32) : ((x &&& 2147483647) % 5) = 0 ∨ ((x &&& 2147483647) % 5) = 1 ∨ ((x &&& 2147483647) % 5) = 2 ∨ ((x &&& 2147483647) % 5) = 3 ∨ ((x &&& 2147483647) % 5) = 4 := by
  have h : (x &&& 2147483647).toInt = x.toInt % 2147483648 := c_mask x 2147483647 31 (by decide) (by decide)
  have h2 : ((x &&& 2147483647) % 5).toInt = (x &&& 2147483647).toInt % 5 := (c_irem (x &&& 2147483647) 5 5 (by rfl)).1 (by omega)
  have e : (((x &&& 2147483647) % 5)).toInt = 0 ∨ (((x &&& 2147483647) % 5)).toInt = 1 ∨ (((x &&& 2147483647) % 5)).toInt = 2 ∨ (((x &&& 2147483647) % 5)).toInt = 3 ∨ (((x &&& 2147483647) % 5)).toInt = 4 := by omega
  rcases e with e | e | e | e | e
  · exact (Or.inl (Int32.toInt_inj.mp (e.trans (by rfl))))
  · exact (Or.inr (Or.inl (Int32.toInt_inj.mp (e.trans (by rfl)))))
  · exact (Or.inr (Or.inr (Or.inl (Int32.toInt_inj.mp (e.trans (by rfl))))))
  · exact (Or.inr (Or.inr (Or.inr (Or.inl (Int32.toInt_inj.mp (e.trans (by rfl)))))))
  · exact (Or.inr (Or.inr (Or.inr (Or.inr (Int32.toInt_inj.mp (e.trans (by rfl)))))))
def own_pick (k : Int32) (b0 b1 b2 b3 b4 : Addr) : Addr := if k = 0 then b0 else if k = 1 then b1 else if k = 2 then b2 else if k = 3 then b3 else b4
def own_ms (k : Int32) : Int32 := if k < 2 then 200 else 1000
theorem d1_0 : decode method_2_code 0 = .ok (.iload_n 0, 1) := by decide +kernel
theorem d1_1 : decode method_2_code 1 = .ok (.ifCond .ne 7, 3) := by decide +kernel
theorem d1_4 : decode method_2_code 4 = .ok (.getstatic 7, 3) := by decide +kernel
theorem d1_7 : decode method_2_code 7 = .ok (.areturn, 1) := by decide +kernel
theorem d1_8 : decode method_2_code 8 = .ok (.iload_n 0, 1) := by decide +kernel
theorem d1_9 : decode method_2_code 9 = .ok (.iconst 1, 1) := by decide +kernel
theorem d1_10 : decode method_2_code 10 = .ok (.if_icmp .ne 7, 3) := by decide +kernel
theorem d1_13 : decode method_2_code 13 = .ok (.getstatic 13, 3) := by decide +kernel
theorem d1_16 : decode method_2_code 16 = .ok (.areturn, 1) := by decide +kernel
theorem d1_17 : decode method_2_code 17 = .ok (.iload_n 0, 1) := by decide +kernel
theorem d1_18 : decode method_2_code 18 = .ok (.iconst 2, 1) := by decide +kernel
theorem d1_19 : decode method_2_code 19 = .ok (.if_icmp .ne 7, 3) := by decide +kernel
theorem d1_22 : decode method_2_code 22 = .ok (.getstatic 16, 3) := by decide +kernel
theorem d1_25 : decode method_2_code 25 = .ok (.areturn, 1) := by decide +kernel
theorem d1_26 : decode method_2_code 26 = .ok (.iload_n 0, 1) := by decide +kernel
theorem d1_27 : decode method_2_code 27 = .ok (.iconst 3, 1) := by decide +kernel
theorem d1_28 : decode method_2_code 28 = .ok (.if_icmp .ne 7, 3) := by decide +kernel
theorem d1_31 : decode method_2_code 31 = .ok (.getstatic 19, 3) := by decide +kernel
theorem d1_34 : decode method_2_code 34 = .ok (.areturn, 1) := by decide +kernel
theorem d1_35 : decode method_2_code 35 = .ok (.getstatic 22, 3) := by decide +kernel
theorem d1_38 : decode method_2_code 38 = .ok (.areturn, 1) := by decide +kernel
theorem ef_1 (m : MethodId) (x0 : Int32) : entryFrame m #[(.int x0)] 1 = mkF m 0 #[.val (.int x0)] [] := by first | (simp [entryFrame, mkF, argsToLocals, Value.category]; done) | rfl
theorem pn_com_example_brisk_tune_brisktune_music_ModelMaxStylePinLaw : plainName "com/example/brisk_tune/brisktune/music/ModelMaxStylePinLaw" = true := by first | (simp [plainName, overriddenIn]; done) | decide +kernel
def Q_1 (Z : State) (p1 : Int32) (b0 b1 b2 b3 b4 r : Addr) (h0 : Heap) (n0 : Nat) (v : Option Value) (h : Heap) (L : List Loc) : Prop := v = some (.ref r) ∧ Fr n0 L ∧ h = h0
set_option maxRecDepth 65536 in
set_option maxHeartbeats 40000000 in
theorem rm_1 (l : Launch) (Z : State) (a0 : Array Value) (hw : ∀ d ∈ tables_1, d.before a0 Z = true) (ws : List Jvm.Cond) (p1 : Int32) (b0 b1 b2 b3 b4 r : Addr) (h0 : Heap) (n0 : Nat) (Z0 : n0 ≤ h0.size) (S_b0 : Sta Z h0 "com/example/brisk_tune/brisktune/music/Model" "V3_5" "Lcom/example/brisk_tune/brisktune/music/Model;" (.ref b0)) (S_b1 : Sta Z h0 "com/example/brisk_tune/brisktune/music/Model" "V4" "Lcom/example/brisk_tune/brisktune/music/Model;" (.ref b1)) (S_b2 : Sta Z h0 "com/example/brisk_tune/brisktune/music/Model" "V4_5" "Lcom/example/brisk_tune/brisktune/music/Model;" (.ref b2)) (S_b3 : Sta Z h0 "com/example/brisk_tune/brisktune/music/Model" "V4_5PLUS" "Lcom/example/brisk_tune/brisktune/music/Model;" (.ref b3)) (S_b4 : Sta Z h0 "com/example/brisk_tune/brisktune/music/Model" "V5" "Lcom/example/brisk_tune/brisktune/music/Model;" (.ref b4)) (hsp : own_pick p1 b0 b1 b2 b3 b4 = r) :
    MetFree l (⟨"com/example/brisk_tune/brisktune/music/ModelMaxStylePinLaw", "pick", "(I)Lcom/example/brisk_tune/brisktune/music/Model;"⟩ : MethodName) (head1 (Jvm.Cond.code (⟨"com/example/brisk_tune/brisktune/music/ModelMaxStylePinLaw", "pick", "(I)Lcom/example/brisk_tune/brisktune/music/Model;"⟩ : MethodName) method_2_code 1 (some (.object "com/example/brisk_tune/brisktune/music/Model")) :: ws) ({ frames := 0, cells := 0, slots := 0, locals := 0 } : Room)) (fun a U => a = #[(.int p1)] ∧ Z.Warmed39 U.vm ∧ U.heap = h0) (fun _ _ _ _ _ => True) (fun _ U o U' => ∃ v L, o = .returned v ∧ Q_1 Z p1 b0 b1 b2 b3 b4 r h0 n0 v U'.heap L ∧ FrameEnd U o U' L ({ frames := 0, cells := 0, slots := 0, locals := 0 } : Room).cells ({ frames := 0, cells := 0, slots := 0, locals := 0 } : Room).slots) := by
  refine MetFree.of_bodySF (plainFor_of_name pn_com_example_brisk_tune_brisktune_music_ModelMaxStylePinLaw) hisR ?_
  intro p e s m args below meth c s₁ Bd hml0 hP hK
  obtain ⟨rfl, hZ, hh⟩ := hP
  have hx := Bd.exec
  have hby := Bd.bytes
  have hml : c.maxLocals = 1 := hml0
  have hown : s.vm.findClass "com/example/brisk_tune/brisktune/music/ModelMaxStylePinLaw" = some m.cls := findClass_of_methodNamed Bd.named
  have hnm := (name_of_methodNamed Bd.named Bd.method).1
  have X0 : Stand p l e ({ frames := 0, cells := 0, slots := 0, locals := 0 } : Room) s m #[(.int p1)] below meth c s₁ [] 0 0 := Stand.of_body Bd
  have e0 : s₁.heap = h0 := by rw [← hh, Bd.state]; rfl
  have N0 := Fr.nil n0
  have pw0 : ∀ t, Steps p.tables e below (s₁.setTop (mkF m 0 #[.val (.int p1)] [])) t → Steps p.tables e below (s₁.setTop (entryFrame m #[(.int p1)] 1)) t := fun t k => castTop (ef_1 m p1) k
  have K0 : Keep h0 h0 [] := Keep.refl h0 []
  have pw1 : ∀ t, Steps p.tables e below (s₁.setTop (mkF m 1 #[.val (.int p1)] [(.int p1)])) t → Steps p.tables e below (s₁.setTop (entryFrame m #[(.int p1)] 1)) t := by
    intro t k
    refine pw0 t ?_
    refine XS.iloadN X0.here hx rfl (hb hby d1_0) rfl ?_
    show Steps p.tables e below (s₁.setTop (mkF m 1 #[.val (.int p1)] [(.int p1)])) _
    exact k
  by_cases hc2 : p1 = (0 : Int32)
  · skip
    obtain ⟨T3, X3, e3, st3⟩ := getS2 X0 hx hZ hown (host := "") (Or.inl (hw _ (List.mem_of_getElem? (i := 5) rfl))) Via.refl e0 S_b0 (g := (mkF m 4 #[.val (.int p1)] [])) rfl (hb hby d1_4)
    obtain ⟨fs, hr, hrun, hended, hW, hsame⟩ := X3.leave (v := some (.ref b0)) (fun h => by rw [Bd.returns] at h; cases h)
    refine ⟨_, _, pw1 _ ?_, hrun, hended, _, _, rfl, ?_, ⟨_, rfl⟩, hW, hsame.mono (by decide) (by decide)⟩
    · skip
      refine XS.ifNo X0.here hx rfl (hb hby d1_1) rfl ((if0 _ _).trans (teq hc2).2) ?_
      show Steps p.tables e below (s₁.setTop (mkF m 4 #[.val (.int p1)] [])) _
      refine st3 _ ?_
      show Steps p.tables e below (T3.setTop (mkF m 7 #[.val (.int p1)] [(.ref b0)])) _
      exact retOut X3 hx Bd.returns rfl (Or.inr (Or.inr (Or.inr (Or.inr ⟨rfl, rfl, rfl⟩)))) (hb hby d1_7) hr
    · show Q_1 Z p1 b0 b1 b2 b3 b4 r h0 n0 _ T3.heap _
      rw [e3]
      exact ⟨by rw [← hsp]; unfold own_pick; rw [if_pos hc2], N0, rfl⟩
  · skip
    have pw4 : ∀ t, Steps p.tables e below (s₁.setTop (mkF m 10 #[.val (.int p1)] [(.int (1 : Int32)), (.int p1)])) t → Steps p.tables e below (s₁.setTop (entryFrame m #[(.int p1)] 1)) t := by
      intro t k
      refine pw1 t ?_
      refine XS.ifYes X0.here hx rfl (pc0 := 1) (pc' := 8) rfl (hb hby d1_1) rfl ((if0 _ _).trans (feq hc2).2) (by decide) (by decide) ?_
      show Steps p.tables e below (s₁.setTop (mkF m 8 #[.val (.int p1)] [])) _
      refine XS.iloadN X0.here hx rfl (hb hby d1_8) rfl ?_
      show Steps p.tables e below (s₁.setTop (mkF m 9 #[.val (.int p1)] [(.int p1)])) _
      refine XS.iconst X0.here hx rfl (hb hby d1_9) ?_
      show Steps p.tables e below (s₁.setTop (mkF m 10 #[.val (.int p1)] [(.int (1 : Int32)), (.int p1)])) _
      exact k
    by_cases hc5 : p1 = (1 : Int32)
    · skip
      obtain ⟨T6, X6, e6, st6⟩ := getS2 X0 hx hZ hown (host := "") (Or.inl (hw _ (List.mem_of_getElem? (i := 26) rfl))) Via.refl e0 S_b1 (g := (mkF m 13 #[.val (.int p1)] [])) rfl (hb hby d1_13)
      obtain ⟨fs, hr, hrun, hended, hW, hsame⟩ := X6.leave (v := some (.ref b1)) (fun h => by rw [Bd.returns] at h; cases h)
      refine ⟨_, _, pw4 _ ?_, hrun, hended, _, _, rfl, ?_, ⟨_, rfl⟩, hW, hsame.mono (by decide) (by decide)⟩
      · skip
        refine XS.icmpNo X0.here hx rfl (hb hby d1_10) rfl (teq hc5).2 ?_
        show Steps p.tables e below (s₁.setTop (mkF m 13 #[.val (.int p1)] [])) _
        refine st6 _ ?_
        show Steps p.tables e below (T6.setTop (mkF m 16 #[.val (.int p1)] [(.ref b1)])) _
        exact retOut X6 hx Bd.returns rfl (Or.inr (Or.inr (Or.inr (Or.inr ⟨rfl, rfl, rfl⟩)))) (hb hby d1_16) hr
      · show Q_1 Z p1 b0 b1 b2 b3 b4 r h0 n0 _ T6.heap _
        rw [e6]
        exact ⟨by rw [← hsp]; unfold own_pick; rw [if_neg hc2, if_pos hc5], N0, rfl⟩
    · skip
      have pw7 : ∀ t, Steps p.tables e below (s₁.setTop (mkF m 19 #[.val (.int p1)] [(.int (2 : Int32)), (.int p1)])) t → Steps p.tables e below (s₁.setTop (entryFrame m #[(.int p1)] 1)) t := by
        intro t k
        refine pw4 t ?_
        refine XS.icmpYes X0.here hx rfl (pc0 := 10) (pc' := 17) rfl (hb hby d1_10) rfl (feq hc5).2 (by decide) (by decide) ?_
        show Steps p.tables e below (s₁.setTop (mkF m 17 #[.val (.int p1)] [])) _
        refine XS.iloadN X0.here hx rfl (hb hby d1_17) rfl ?_
        show Steps p.tables e below (s₁.setTop (mkF m 18 #[.val (.int p1)] [(.int p1)])) _
        refine XS.iconst X0.here hx rfl (hb hby d1_18) ?_
        show Steps p.tables e below (s₁.setTop (mkF m 19 #[.val (.int p1)] [(.int (2 : Int32)), (.int p1)])) _
        exact k
      by_cases hc8 : p1 = (2 : Int32)
      · skip
        obtain ⟨T9, X9, e9, st9⟩ := getS2 X0 hx hZ hown (host := "") (Or.inl (hw _ (List.mem_of_getElem? (i := 28) rfl))) Via.refl e0 S_b2 (g := (mkF m 22 #[.val (.int p1)] [])) rfl (hb hby d1_22)
        obtain ⟨fs, hr, hrun, hended, hW, hsame⟩ := X9.leave (v := some (.ref b2)) (fun h => by rw [Bd.returns] at h; cases h)
        refine ⟨_, _, pw7 _ ?_, hrun, hended, _, _, rfl, ?_, ⟨_, rfl⟩, hW, hsame.mono (by decide) (by decide)⟩
        · skip
          refine XS.icmpNo X0.here hx rfl (hb hby d1_19) rfl (teq hc8).2 ?_
          show Steps p.tables e below (s₁.setTop (mkF m 22 #[.val (.int p1)] [])) _
          refine st9 _ ?_
          show Steps p.tables e below (T9.setTop (mkF m 25 #[.val (.int p1)] [(.ref b2)])) _
          exact retOut X9 hx Bd.returns rfl (Or.inr (Or.inr (Or.inr (Or.inr ⟨rfl, rfl, rfl⟩)))) (hb hby d1_25) hr
        · show Q_1 Z p1 b0 b1 b2 b3 b4 r h0 n0 _ T9.heap _
          rw [e9]
          exact ⟨by rw [← hsp]; unfold own_pick; rw [if_neg hc2, if_neg hc5, if_pos hc8], N0, rfl⟩
      · skip
        have pw10 : ∀ t, Steps p.tables e below (s₁.setTop (mkF m 28 #[.val (.int p1)] [(.int (3 : Int32)), (.int p1)])) t → Steps p.tables e below (s₁.setTop (entryFrame m #[(.int p1)] 1)) t := by
          intro t k
          refine pw7 t ?_
          refine XS.icmpYes X0.here hx rfl (pc0 := 19) (pc' := 26) rfl (hb hby d1_19) rfl (feq hc8).2 (by decide) (by decide) ?_
          show Steps p.tables e below (s₁.setTop (mkF m 26 #[.val (.int p1)] [])) _
          refine XS.iloadN X0.here hx rfl (hb hby d1_26) rfl ?_
          show Steps p.tables e below (s₁.setTop (mkF m 27 #[.val (.int p1)] [(.int p1)])) _
          refine XS.iconst X0.here hx rfl (hb hby d1_27) ?_
          show Steps p.tables e below (s₁.setTop (mkF m 28 #[.val (.int p1)] [(.int (3 : Int32)), (.int p1)])) _
          exact k
        by_cases hc11 : p1 = (3 : Int32)
        · skip
          obtain ⟨T12, X12, e12, st12⟩ := getS2 X0 hx hZ hown (host := "") (Or.inl (hw _ (List.mem_of_getElem? (i := 8) rfl))) Via.refl e0 S_b3 (g := (mkF m 31 #[.val (.int p1)] [])) rfl (hb hby d1_31)
          obtain ⟨fs, hr, hrun, hended, hW, hsame⟩ := X12.leave (v := some (.ref b3)) (fun h => by rw [Bd.returns] at h; cases h)
          refine ⟨_, _, pw10 _ ?_, hrun, hended, _, _, rfl, ?_, ⟨_, rfl⟩, hW, hsame.mono (by decide) (by decide)⟩
          · skip
            refine XS.icmpNo X0.here hx rfl (hb hby d1_28) rfl (teq hc11).2 ?_
            show Steps p.tables e below (s₁.setTop (mkF m 31 #[.val (.int p1)] [])) _
            refine st12 _ ?_
            show Steps p.tables e below (T12.setTop (mkF m 34 #[.val (.int p1)] [(.ref b3)])) _
            exact retOut X12 hx Bd.returns rfl (Or.inr (Or.inr (Or.inr (Or.inr ⟨rfl, rfl, rfl⟩)))) (hb hby d1_34) hr
          · show Q_1 Z p1 b0 b1 b2 b3 b4 r h0 n0 _ T12.heap _
            rw [e12]
            exact ⟨by rw [← hsp]; unfold own_pick; rw [if_neg hc2, if_neg hc5, if_neg hc8, if_pos hc11], N0, rfl⟩
        · skip
          obtain ⟨T13, X13, e13, st13⟩ := getS2 X0 hx hZ hown (host := "") (Or.inl (hw _ (List.mem_of_getElem? (i := 24) rfl))) Via.refl e0 S_b4 (g := (mkF m 35 #[.val (.int p1)] [])) rfl (hb hby d1_35)
          obtain ⟨fs, hr, hrun, hended, hW, hsame⟩ := X13.leave (v := some (.ref b4)) (fun h => by rw [Bd.returns] at h; cases h)
          refine ⟨_, _, pw10 _ ?_, hrun, hended, _, _, rfl, ?_, ⟨_, rfl⟩, hW, hsame.mono (by decide) (by decide)⟩
          · skip
            refine XS.icmpYes X0.here hx rfl (pc0 := 28) (pc' := 35) rfl (hb hby d1_28) rfl (feq hc11).2 (by decide) (by decide) ?_
            show Steps p.tables e below (s₁.setTop (mkF m 35 #[.val (.int p1)] [])) _
            refine st13 _ ?_
            show Steps p.tables e below (T13.setTop (mkF m 38 #[.val (.int p1)] [(.ref b4)])) _
            exact retOut X13 hx Bd.returns rfl (Or.inr (Or.inr (Or.inr (Or.inr ⟨rfl, rfl, rfl⟩)))) (hb hby d1_38) hr
          · show Q_1 Z p1 b0 b1 b2 b3 b4 r h0 n0 _ T13.heap _
            rw [e13]
            exact ⟨by rw [← hsp]; unfold own_pick; rw [if_neg hc2, if_neg hc5, if_neg hc8, if_neg hc11], N0, rfl⟩
theorem d3_0 : decode jdk_37_method_2_code 0 = .ok (.aload_n 0, 1) := by decide +kernel
theorem d3_1 : decode jdk_37_method_2_code 1 = .ok (.getfield 7, 3) := by decide +kernel
theorem d3_4 : decode jdk_37_method_2_code 4 = .ok (.ireturn, 1) := by decide +kernel
theorem ef_3 (m : MethodId) (x0 : Addr) : entryFrame m #[(.ref x0)] 1 = mkF m 0 #[.val (.ref x0)] [] := by first | (simp [entryFrame, mkF, argsToLocals, Value.category]; done) | rfl
theorem pn_java_lang_Enum : plainName "java/lang/Enum" = true := by first | (simp [plainName, overriddenIn]; done) | decide +kernel
def Q_3 (Z : State) (a1 : Addr) (od : Int32) (h0 : Heap) (n0 : Nat) (v : Option Value) (h : Heap) (L : List Loc) : Prop := v = some (.int od) ∧ Fr n0 L ∧ h = h0
set_option maxRecDepth 65536 in
set_option maxHeartbeats 40000000 in
theorem rm_3 (l : Launch) (Z : State) (a0 : Array Value) (hw : ∀ d ∈ tables_1, d.before a0 Z = true) (ws : List Jvm.Cond) (a1 : Addr) (od : Int32) (h0 : Heap) (n0 : Nat) (Z0 : n0 ≤ h0.size) (F_o : Fld Z h0 a1 "java/lang/Enum" "ordinal" "I" (.int od)) :
    MetFree l (⟨"java/lang/Enum", "ordinal", "()I"⟩ : MethodName) (head1 (Jvm.Cond.code (⟨"java/lang/Enum", "ordinal", "()I"⟩ : MethodName) jdk_37_method_2_code 1 (some .int) :: ws) ({ frames := 0, cells := 0, slots := 0, locals := 0 } : Room)) (fun a U => a = #[(.ref a1)] ∧ Z.Warmed39 U.vm ∧ U.heap = h0) (fun _ _ _ _ _ => True) (fun _ U o U' => ∃ v L, o = .returned v ∧ Q_3 Z a1 od h0 n0 v U'.heap L ∧ FrameEnd U o U' L ({ frames := 0, cells := 0, slots := 0, locals := 0 } : Room).cells ({ frames := 0, cells := 0, slots := 0, locals := 0 } : Room).slots) := by
  refine MetFree.of_bodySF (plainFor_of_name pn_java_lang_Enum) hisR ?_
  intro p e s m args below meth c s₁ Bd hml0 hP hK
  obtain ⟨rfl, hZ, hh⟩ := hP
  have hx := Bd.exec
  have hby := Bd.bytes
  have hml : c.maxLocals = 1 := hml0
  have hown : s.vm.findClass "java/lang/Enum" = some m.cls := findClass_of_methodNamed Bd.named
  have hnm := (name_of_methodNamed Bd.named Bd.method).1
  have X0 : Stand p l e ({ frames := 0, cells := 0, slots := 0, locals := 0 } : Room) s m #[(.ref a1)] below meth c s₁ [] 0 0 := Stand.of_body Bd
  have e0 : s₁.heap = h0 := by rw [← hh, Bd.state]; rfl
  have N0 := Fr.nil n0
  have pw0 : ∀ t, Steps p.tables e below (s₁.setTop (mkF m 0 #[.val (.ref a1)] [])) t → Steps p.tables e below (s₁.setTop (entryFrame m #[(.ref a1)] 1)) t := fun t k => castTop (ef_3 m a1) k
  have K0 : Keep h0 h0 [] := Keep.refl h0 []
  obtain ⟨T14, X14, e14, st14⟩ := getF X0 hx hZ hown (host := "") (Or.inl (hw _ (List.mem_of_getElem? (i := 22) rfl))) Via.refl e0 F_o (g := (mkF m 1 #[.val (.ref a1)] [(.ref a1)])) rfl rfl (hb hby d3_1)
  obtain ⟨fs, hr, hrun, hended, hW, hsame⟩ := X14.leave (v := some (.int od)) (fun h => by rw [Bd.returns] at h; cases h)
  refine ⟨_, _, pw0 _ ?_, hrun, hended, _, _, rfl, ?_, ⟨_, rfl⟩, hW, hsame.mono (by decide) (by decide)⟩
  · skip
    refine XS.aloadN X0.here hx rfl (hb hby d3_0) rfl rfl ?_
    show Steps p.tables e below (s₁.setTop (mkF m 1 #[.val (.ref a1)] [(.ref a1)])) _
    refine st14 _ ?_
    show Steps p.tables e below (T14.setTop (mkF m 4 #[.val (.ref a1)] [(.int od)])) _
    exact retI X14 hx Bd.returns (hb hby d3_4) hr
  · show Q_3 Z a1 od h0 n0 _ T14.heap _
    rw [e14]
    exact ⟨rfl, N0, rfl⟩
theorem d2_0 : decode prog_17_method_7_code 0 = .ok (.aload_n 0, 1) := by decide +kernel
theorem d2_1 : decode prog_17_method_7_code 1 = .ok (.invokevirtual 74, 3) := by decide +kernel
theorem d2_4 : decode prog_17_method_7_code 4 = .ok (.tableswitch 36 0 4 #[46, 46, 52, 52, 52], 36) := by decide +kernel
theorem d2_50 : decode prog_17_method_7_code 50 = .ok (.sipush 200, 3) := by decide +kernel
theorem d2_53 : decode prog_17_method_7_code 53 = .ok (.goto 6, 3) := by decide +kernel
theorem d2_56 : decode prog_17_method_7_code 56 = .ok (.sipush 1000, 3) := by decide +kernel
theorem d2_59 : decode prog_17_method_7_code 59 = .ok (.ireturn, 1) := by decide +kernel
theorem ef_2 (m : MethodId) (x0 : Addr) : entryFrame m #[(.ref x0)] 1 = mkF m 0 #[.val (.ref x0)] [] := by first | (simp [entryFrame, mkF, argsToLocals, Value.category]; done) | rfl
theorem pn_com_example_brisk_tune_brisktune_music_Model : plainName "com/example/brisk_tune/brisktune/music/Model" = true := by first | (simp [plainName, overriddenIn]; done) | decide +kernel
def Q_2 (Z : State) (a1 : Addr) (od r : Int32) (h0 : Heap) (n0 : Nat) (v : Option Value) (h : Heap) (L : List Loc) : Prop := v = some (.int r) ∧ Fr n0 L ∧ h = h0
set_option maxRecDepth 65536 in
set_option maxHeartbeats 40000000 in
theorem rm_2 (l : Launch) (Z : State) (a0 : Array Value) (hw : ∀ d ∈ tables_1, d.before a0 Z = true) (ws : List Jvm.Cond) (a1 : Addr) (od r : Int32) (h0 : Heap) (n0 : Nat) (Z0 : n0 ≤ h0.size) (E_a : Exa Z h0 a1 "com/example/brisk_tune/brisktune/music/Model") (F_o : Fld Z h0 a1 "java/lang/Enum" "ordinal" "I" (.int od)) (h5 : od = (0 : Int32) ∨ od = (1 : Int32) ∨ od = (2 : Int32) ∨ od = (3 : Int32) ∨ od = (4 : Int32)) (hsp : own_ms od = r) :
    MetFree l (⟨"com/example/brisk_tune/brisktune/music/Model", "maxStyle", "()I"⟩ : MethodName) (head1 (Jvm.Cond.code (⟨"com/example/brisk_tune/brisktune/music/Model", "maxStyle", "()I"⟩ : MethodName) prog_17_method_7_code 1 (some .int) :: ws) ({ frames := 1, cells := 0, slots := 0, locals := 12 } : Room)) (fun a U => a = #[(.ref a1)] ∧ Z.Warmed39 U.vm ∧ U.heap = h0) (fun _ _ _ _ _ => True) (fun _ U o U' => ∃ v L, o = .returned v ∧ Q_2 Z a1 od r h0 n0 v U'.heap L ∧ FrameEnd U o U' L ({ frames := 1, cells := 0, slots := 0, locals := 12 } : Room).cells ({ frames := 1, cells := 0, slots := 0, locals := 12 } : Room).slots) := by
  refine MetFree.of_bodySF (plainFor_of_name pn_com_example_brisk_tune_brisktune_music_Model) hisR ?_
  intro p e s m args below meth c s₁ Bd hml0 hP hK
  obtain ⟨rfl, hZ, hh⟩ := hP
  have hx := Bd.exec
  have hby := Bd.bytes
  have hml : c.maxLocals = 1 := hml0
  have hown : s.vm.findClass "com/example/brisk_tune/brisktune/music/Model" = some m.cls := findClass_of_methodNamed Bd.named
  have hnm := (name_of_methodNamed Bd.named Bd.method).1
  have X0 : Stand p l e ({ frames := 1, cells := 0, slots := 0, locals := 12 } : Room) s m #[(.ref a1)] below meth c s₁ [] 0 0 := Stand.of_body Bd
  have e0 : s₁.heap = h0 := by rw [← hh, Bd.state]; rfl
  have N0 := Fr.nil n0
  have pw0 : ∀ t, Steps p.tables e below (s₁.setTop (mkF m 0 #[.val (.ref a1)] [])) t → Steps p.tables e below (s₁.setTop (entryFrame m #[(.ref a1)] 1)) t := fun t k => castTop (ef_2 m a1) k
  have K0 : Keep h0 h0 [] := Keep.refl h0 []
  obtain ⟨cq15, kq15, q15a, q15b, q15c⟩ := isOf hZ e0 E_a
  obtain ⟨_, _, ⟨T15, L15, k15, n15⟩, -, X15, ⟨Lc15, hQ15, l15, y15, z15⟩, st15⟩ := X0.virtualBackUp hx (owner := "java/lang/Enum") (x := (⟨"com/example/brisk_tune/brisktune/music/Model", "ordinal", "()I"⟩ : MethodName)) (y := (⟨"java/lang/Enum", "ordinal", "()I"⟩ : MethodName)) hown (mvT hZ (hw _ (List.mem_of_getElem? (i := 15) rfl))) (mvT hZ (hw _ (List.mem_of_getElem? (i := 16) rfl))) (mvT hZ (hw _ (List.mem_of_getElem? (i := 17) rfl))) (by decide) (mvT hZ (hw _ (List.mem_of_getElem? (i := 19) rfl))) (mvT hZ (hw _ (List.mem_of_getElem? (i := 18) rfl))) (backOf (W := 0) (rm_3 l Z a0 hw [] a1 od h0 n0 Z0 F_o) hZ (hw _ (List.mem_of_getElem? (i := 21) rfl)) (hw _ (List.mem_of_getElem? (i := 20) rfl)) (by decide) (by decide)) q15a q15c (g := (mkF m 1 #[.val (.ref a1)] [(.ref a1)])) rfl (by rw [hml]; rfl) (Steps.refl _) (argsL := []) (rest := []) (lenOf pd___I rfl) rfl (by show 2 * 0 + _ ≤ _; exact Nat.le_of_eq rfl) (hb hby d2_1) (fun _ _ => ⟨rfl, e0, (by decide : 0 + 0 ≤ _), (by decide : 0 + 0 ≤ _)⟩)
  dsimp only [Pt.U, Pt.locs, Pt.cells, Pt.slots] at X15 l15 y15 z15 st15 hQ15
  subst l15 y15 z15
  obtain ⟨rfl, N15q, e15q⟩ := hQ15
  have N15 := Fr.app N0 N15q
  have pw16 : ∀ t, Steps p.tables e below (T15.setTop (mkF m 4 #[.val (.ref a1)] [(.int od)])) t → Steps p.tables e below (s₁.setTop (entryFrame m #[(.ref a1)] 1)) t := by
    intro t k
    refine pw0 t ?_
    refine XS.aloadN X0.here hx rfl (hb hby d2_0) rfl rfl ?_
    show Steps p.tables e below (s₁.setTop (mkF m 1 #[.val (.ref a1)] [(.ref a1)])) _
    refine st15.trans ?_
    show Steps p.tables e below (T15.setTop (mkF m 4 #[.val (.ref a1)] [(.int od)])) _
    exact k
  rcases h5 with ho17 | ho17 | ho17 | ho17 | ho17
  · skip
    obtain ⟨fs, hr, hrun, hended, hW, hsame⟩ := X15.leave (v := some (.int (200 : Int32))) (fun h => by rw [Bd.returns] at h; cases h)
    refine ⟨_, _, pw16 _ ?_, hrun, hended, _, _, rfl, ?_, ⟨_, rfl⟩, hW, hsame.mono (by decide) (by decide)⟩
    · skip
      rw [ho17]
      refine XS.tswIn X15.here hx rfl (pc0 := 4) (pc' := 50) rfl (hb hby d2_4) rfl (by decide) (by rfl) (by decide) (by decide) ?_
      show Steps p.tables e below (T15.setTop (mkF m 50 #[.val (.ref a1)] [])) _
      refine XS.sipush X15.here hx rfl (hb hby d2_50) ?_
      show Steps p.tables e below (T15.setTop (mkF m 53 #[.val (.ref a1)] [(.int (200 : Int32))])) _
      refine XS.goto X15.here hx rfl (pc0 := 53) (pc' := 59) rfl (hb hby d2_53) (by decide) (by decide) ?_
      show Steps p.tables e below (T15.setTop (mkF m 59 #[.val (.ref a1)] [(.int (200 : Int32))])) _
      exact retI X15 hx Bd.returns (hb hby d2_59) hr
    · show Q_2 Z a1 od r h0 n0 _ T15.heap _
      rw [e15q]
      exact ⟨by rw [← hsp, ho17]; rfl, N15, rfl⟩
  · skip
    obtain ⟨fs, hr, hrun, hended, hW, hsame⟩ := X15.leave (v := some (.int (200 : Int32))) (fun h => by rw [Bd.returns] at h; cases h)
    refine ⟨_, _, pw16 _ ?_, hrun, hended, _, _, rfl, ?_, ⟨_, rfl⟩, hW, hsame.mono (by decide) (by decide)⟩
    · skip
      rw [ho17]
      refine XS.tswIn X15.here hx rfl (pc0 := 4) (pc' := 50) rfl (hb hby d2_4) rfl (by decide) (by rfl) (by decide) (by decide) ?_
      show Steps p.tables e below (T15.setTop (mkF m 50 #[.val (.ref a1)] [])) _
      refine XS.sipush X15.here hx rfl (hb hby d2_50) ?_
      show Steps p.tables e below (T15.setTop (mkF m 53 #[.val (.ref a1)] [(.int (200 : Int32))])) _
      refine XS.goto X15.here hx rfl (pc0 := 53) (pc' := 59) rfl (hb hby d2_53) (by decide) (by decide) ?_
      show Steps p.tables e below (T15.setTop (mkF m 59 #[.val (.ref a1)] [(.int (200 : Int32))])) _
      exact retI X15 hx Bd.returns (hb hby d2_59) hr
    · show Q_2 Z a1 od r h0 n0 _ T15.heap _
      rw [e15q]
      exact ⟨by rw [← hsp, ho17]; rfl, N15, rfl⟩
  · skip
    obtain ⟨fs, hr, hrun, hended, hW, hsame⟩ := X15.leave (v := some (.int (1000 : Int32))) (fun h => by rw [Bd.returns] at h; cases h)
    refine ⟨_, _, pw16 _ ?_, hrun, hended, _, _, rfl, ?_, ⟨_, rfl⟩, hW, hsame.mono (by decide) (by decide)⟩
    · skip
      rw [ho17]
      refine XS.tswIn X15.here hx rfl (pc0 := 4) (pc' := 56) rfl (hb hby d2_4) rfl (by decide) (by rfl) (by decide) (by decide) ?_
      show Steps p.tables e below (T15.setTop (mkF m 56 #[.val (.ref a1)] [])) _
      refine XS.sipush X15.here hx rfl (hb hby d2_56) ?_
      show Steps p.tables e below (T15.setTop (mkF m 59 #[.val (.ref a1)] [(.int (1000 : Int32))])) _
      exact retI X15 hx Bd.returns (hb hby d2_59) hr
    · show Q_2 Z a1 od r h0 n0 _ T15.heap _
      rw [e15q]
      exact ⟨by rw [← hsp, ho17]; rfl, N15, rfl⟩
  · skip
    obtain ⟨fs, hr, hrun, hended, hW, hsame⟩ := X15.leave (v := some (.int (1000 : Int32))) (fun h => by rw [Bd.returns] at h; cases h)
    refine ⟨_, _, pw16 _ ?_, hrun, hended, _, _, rfl, ?_, ⟨_, rfl⟩, hW, hsame.mono (by decide) (by decide)⟩
    · skip
      rw [ho17]
      refine XS.tswIn X15.here hx rfl (pc0 := 4) (pc' := 56) rfl (hb hby d2_4) rfl (by decide) (by rfl) (by decide) (by decide) ?_
      show Steps p.tables e below (T15.setTop (mkF m 56 #[.val (.ref a1)] [])) _
      refine XS.sipush X15.here hx rfl (hb hby d2_56) ?_
      show Steps p.tables e below (T15.setTop (mkF m 59 #[.val (.ref a1)] [(.int (1000 : Int32))])) _
      exact retI X15 hx Bd.returns (hb hby d2_59) hr
    · show Q_2 Z a1 od r h0 n0 _ T15.heap _
      rw [e15q]
      exact ⟨by rw [← hsp, ho17]; rfl, N15, rfl⟩
  · skip
    obtain ⟨fs, hr, hrun, hended, hW, hsame⟩ := X15.leave (v := some (.int (1000 : Int32))) (fun h => by rw [Bd.returns] at h; cases h)
    refine ⟨_, _, pw16 _ ?_, hrun, hended, _, _, rfl, ?_, ⟨_, rfl⟩, hW, hsame.mono (by decide) (by decide)⟩
    · skip
      rw [ho17]
      refine XS.tswIn X15.here hx rfl (pc0 := 4) (pc' := 56) rfl (hb hby d2_4) rfl (by decide) (by rfl) (by decide) (by decide) ?_
      show Steps p.tables e below (T15.setTop (mkF m 56 #[.val (.ref a1)] [])) _
      refine XS.sipush X15.here hx rfl (hb hby d2_56) ?_
      show Steps p.tables e below (T15.setTop (mkF m 59 #[.val (.ref a1)] [(.int (1000 : Int32))])) _
      exact retI X15 hx Bd.returns (hb hby d2_59) hr
    · show Q_2 Z a1 od r h0 n0 _ T15.heap _
      rw [e15q]
      exact ⟨by rw [← hsp, ho17]; rfl, N15, rfl⟩
theorem ef_0 (m : MethodId) (x0 : Int32) (x1 : Int32) : entryFrame m #[(.int x0), (.int x1)] maxLocals = mkF m 0 #[.val (.int x0), .val (.int x1), .unset, .unset, .unset, .unset, .unset, .unset, .unset, .unset, .unset] [] := by first | (simp [entryFrame, mkF, argsToLocals, Value.category, maxLocals]; done) | rfl
def Q_0 (Z : State) (x0 : Int32) (x1 : Int32) (b0 b1 b2 b3 b4 r1 r2 : Addr) (s_ t_ : Int32) (h0 : Heap) (n0 : Nat) (v : Option Value) (h : Heap) (L : List Loc) : Prop := v = some (.int 1) ∧ Fr n0 L
set_option maxRecDepth 65536 in
set_option maxHeartbeats 40000000 in
theorem rm_0 (l : Launch) (Z : State) (a0 : Array Value) (hw : ∀ d ∈ tables_1, d.before a0 Z = true) (ws : List Jvm.Cond) (x0 : Int32) (x1 : Int32) (b0 b1 b2 b3 b4 r1 r2 : Addr) (s_ t_ : Int32) (h0 : Heap) (n0 : Nat) (Z0 : n0 ≤ h0.size) (S_b0 : Sta Z h0 "com/example/brisk_tune/brisktune/music/Model" "V3_5" "Lcom/example/brisk_tune/brisktune/music/Model;" (.ref b0)) (S_b1 : Sta Z h0 "com/example/brisk_tune/brisktune/music/Model" "V4" "Lcom/example/brisk_tune/brisktune/music/Model;" (.ref b1)) (S_b2 : Sta Z h0 "com/example/brisk_tune/brisktune/music/Model" "V4_5" "Lcom/example/brisk_tune/brisktune/music/Model;" (.ref b2)) (S_b3 : Sta Z h0 "com/example/brisk_tune/brisktune/music/Model" "V4_5PLUS" "Lcom/example/brisk_tune/brisktune/music/Model;" (.ref b3)) (S_b4 : Sta Z h0 "com/example/brisk_tune/brisktune/music/Model" "V5" "Lcom/example/brisk_tune/brisktune/music/Model;" (.ref b4)) (E_r1 : Exa Z h0 r1 "com/example/brisk_tune/brisktune/music/Model") (E_r2 : Exa Z h0 r2 "com/example/brisk_tune/brisktune/music/Model") (F_r1 : Fld Z h0 r1 "java/lang/Enum" "ordinal" "I" (.int ((x0 &&& (2147483647 : Int32)) % (5 : Int32)))) (F_r2 : Fld Z h0 r2 "java/lang/Enum" "ordinal" "I" (.int ((x1 &&& (2147483647 : Int32)) % (5 : Int32)))) (hp1 : own_pick ((x0 &&& (2147483647 : Int32)) % (5 : Int32)) b0 b1 b2 b3 b4 = r1) (hp2 : own_pick ((x1 &&& (2147483647 : Int32)) % (5 : Int32)) b0 b1 b2 b3 b4 = r2) (h51 : ((x0 &&& (2147483647 : Int32)) % (5 : Int32)) = (0 : Int32) ∨ ((x0 &&& (2147483647 : Int32)) % (5 : Int32)) = (1 : Int32) ∨ ((x0 &&& (2147483647 : Int32)) % (5 : Int32)) = (2 : Int32) ∨ ((x0 &&& (2147483647 : Int32)) % (5 : Int32)) = (3 : Int32) ∨ ((x0 &&& (2147483647 : Int32)) % (5 : Int32)) = (4 : Int32)) (h52 : ((x1 &&& (2147483647 : Int32)) % (5 : Int32)) = (0 : Int32) ∨ ((x1 &&& (2147483647 : Int32)) % (5 : Int32)) = (1 : Int32) ∨ ((x1 &&& (2147483647 : Int32)) % (5 : Int32)) = (2 : Int32) ∨ ((x1 &&& (2147483647 : Int32)) % (5 : Int32)) = (3 : Int32) ∨ ((x1 &&& (2147483647 : Int32)) % (5 : Int32)) = (4 : Int32)) (hs : own_ms ((x0 &&& (2147483647 : Int32)) % (5 : Int32)) = s_) (ht : own_ms ((x1 &&& (2147483647 : Int32)) % (5 : Int32)) = t_) (hm : ((x1 &&& (2147483647 : Int32)) % (5 : Int32)) < ((x0 &&& (2147483647 : Int32)) % (5 : Int32)) ∨ ¬ (t_ < s_)) :
    MetFree l x (head1 (Jvm.Cond.code x code maxLocals ret :: ws) room_1) (fun a U => a = #[(.int x0), (.int x1)] ∧ Z.Warmed39 U.vm ∧ U.heap = h0) (fun _ _ _ _ _ => True) (fun _ U o U' => ∃ v L, o = .returned v ∧ Q_0 Z x0 x1 b0 b1 b2 b3 b4 r1 r2 s_ t_ h0 n0 v U'.heap L ∧ FrameEnd U o U' L room_1.cells room_1.slots) := by
  refine MetFree.of_bodySF (plainFor_of_name pn_com_example_brisk_tune_brisktune_music_ModelMaxStylePinLaw) hisR ?_
  intro p e s m args below meth c s₁ Bd hml0 hP hK
  obtain ⟨rfl, hZ, hh⟩ := hP
  have hx := Bd.exec
  have hby := Bd.bytes
  have hml : c.maxLocals = 11 := hml0
  have hown : s.vm.findClass "com/example/brisk_tune/brisktune/music/ModelMaxStylePinLaw" = some m.cls := findClass_of_methodNamed Bd.named
  have hnm := (name_of_methodNamed Bd.named Bd.method).1
  have X0 : Stand p l e room_1 s m #[(.int x0), (.int x1)] below meth c s₁ [] 0 0 := Stand.of_body Bd
  have e0 : s₁.heap = h0 := by rw [← hh, Bd.state]; rfl
  have N0 := Fr.nil n0
  have pw0 : ∀ t, Steps p.tables e below (s₁.setTop (mkF m 0 #[.val (.int x0), .val (.int x1), .unset, .unset, .unset, .unset, .unset, .unset, .unset, .unset, .unset] [])) t → Steps p.tables e below (s₁.setTop (entryFrame m #[(.int x0), (.int x1)] maxLocals)) t := fun t k => castTop (ef_0 m x0 x1) k
  have K0 : Keep h0 h0 [] := Keep.refl h0 []
  obtain ⟨_, _, ⟨T18, L18, k18, n18⟩, -, X18, ⟨Lc18, hQ18, l18, y18, z18⟩, st18⟩ := Jvm.LawKit.callS X0 hx (y := (⟨"com/example/brisk_tune/brisktune/music/ModelMaxStylePinLaw", "pick", "(I)Lcom/example/brisk_tune/brisktune/music/Model;"⟩ : MethodName)) hown (mvT hZ (hw _ (List.mem_of_getElem? (i := 1) rfl))) (mvT hZ (hw _ (List.mem_of_getElem? (i := 2) rfl))) (mvT hZ (hw _ (List.mem_of_getElem? (i := 3) rfl))) (mvT hZ (hw _ (List.mem_of_getElem? (i := 4) rfl))) (by decide) (backOf (W := 0) (rm_1 l Z a0 hw [] ((x0 &&& (2147483647 : Int32)) % (5 : Int32)) b0 b1 b2 b3 b4 r1 h0 n0 Z0 S_b0 S_b1 S_b2 S_b3 S_b4 hp1) hZ (hw _ (List.mem_of_getElem? (i := 4) rfl)) (hw _ (List.mem_of_getElem? (i := 3) rfl)) (by decide) (by decide)) (g := (mkF m 15 #[.val (.int x0), .val (.int x1), .val (.int ((x0 &&& (2147483647 : Int32)) % (5 : Int32))), .val (.int ((x1 &&& (2147483647 : Int32)) % (5 : Int32))), .unset, .unset, .unset, .unset, .unset, .unset, .unset] [(.int ((x0 &&& (2147483647 : Int32)) % (5 : Int32)))])) rfl (by rw [hml]; rfl) (argsL := [(.int ((x0 &&& (2147483647 : Int32)) % (5 : Int32)))]) (rest := []) (lenOf pd__I_Lcom_example_brisk_tune_brisktune_music_Model_ rfl) rfl (by show 2 * 0 + _ ≤ _; exact Nat.le_of_eq rfl) (hb hby at_15) (fun _ _ => ⟨rfl, e0, (by decide : 0 + 0 ≤ _), (by decide : 0 + 0 ≤ _)⟩)
  dsimp only [Pt.U, Pt.locs, Pt.cells, Pt.slots] at X18 l18 y18 z18 st18 hQ18
  subst l18 y18 z18
  obtain ⟨rfl, N18q, e18q⟩ := hQ18
  have N18 := Fr.app N0 N18q
  obtain ⟨_, _, ⟨T19, L19, k19, n19⟩, -, X19, ⟨Lc19, hQ19, l19, y19, z19⟩, st19⟩ := Jvm.LawKit.callS X18 hx (y := (⟨"com/example/brisk_tune/brisktune/music/ModelMaxStylePinLaw", "pick", "(I)Lcom/example/brisk_tune/brisktune/music/Model;"⟩ : MethodName)) hown (mvT hZ (hw _ (List.mem_of_getElem? (i := 1) rfl))) (mvT hZ (hw _ (List.mem_of_getElem? (i := 2) rfl))) (mvT hZ (hw _ (List.mem_of_getElem? (i := 3) rfl))) (mvT hZ (hw _ (List.mem_of_getElem? (i := 4) rfl))) (by decide) (backOf (W := 0) (rm_1 l Z a0 hw [] ((x1 &&& (2147483647 : Int32)) % (5 : Int32)) b0 b1 b2 b3 b4 r2 h0 n0 Z0 S_b0 S_b1 S_b2 S_b3 S_b4 hp2) hZ (hw _ (List.mem_of_getElem? (i := 4) rfl)) (hw _ (List.mem_of_getElem? (i := 3) rfl)) (by decide) (by decide)) (g := (mkF m 21 #[.val (.int x0), .val (.int x1), .val (.int ((x0 &&& (2147483647 : Int32)) % (5 : Int32))), .val (.int ((x1 &&& (2147483647 : Int32)) % (5 : Int32))), .val (.ref r1), .unset, .unset, .unset, .unset, .unset, .unset] [(.int ((x1 &&& (2147483647 : Int32)) % (5 : Int32)))])) rfl (by rw [hml]; rfl) (argsL := [(.int ((x1 &&& (2147483647 : Int32)) % (5 : Int32)))]) (rest := []) (lenOf pd__I_Lcom_example_brisk_tune_brisktune_music_Model_ rfl) rfl (by show 2 * 0 + _ ≤ _; exact Nat.le_of_eq rfl) (hb hby at_21) (fun _ _ => ⟨rfl, e18q, (by decide : 0 + 0 ≤ _), (by decide : 0 + 0 ≤ _)⟩)
  dsimp only [Pt.U, Pt.locs, Pt.cells, Pt.slots] at X19 l19 y19 z19 st19 hQ19
  subst l19 y19 z19
  obtain ⟨rfl, N19q, e19q⟩ := hQ19
  have N19 := Fr.app N18 N19q
  obtain ⟨cq20, kq20, q20a, q20b, q20c⟩ := isOf hZ e19q E_r1
  obtain ⟨_, _, ⟨T20, L20, k20, n20⟩, -, X20, ⟨Lc20, hQ20, l20, y20, z20⟩, st20⟩ := X19.virtualBack hx (y := (⟨"com/example/brisk_tune/brisktune/music/Model", "maxStyle", "()I"⟩ : MethodName)) (z := (⟨"com/example/brisk_tune/brisktune/music/Model", "maxStyle", "()I"⟩ : MethodName)) hown (mvT hZ (hw _ (List.mem_of_getElem? (i := 10) rfl))) (mvT hZ (hw _ (List.mem_of_getElem? (i := 11) rfl))) (notFace_of_selects (args := #[]) (mvT hZ (hw _ (List.mem_of_getElem? (i := 13) rfl)))) (mvT hZ (hw _ (List.mem_of_getElem? (i := 13) rfl))) (mvT hZ (hw _ (List.mem_of_getElem? (i := 12) rfl))) (by decide) (backOf (W := 0) (rm_2 l Z a0 hw [] r1 ((x0 &&& (2147483647 : Int32)) % (5 : Int32)) s_ h0 n0 Z0 E_r1 F_r1 h51 hs) hZ (hw _ (List.mem_of_getElem? (i := 14) rfl)) (hw _ (List.mem_of_getElem? (i := 6) rfl)) (by decide) (by decide)) q20a q20c (g := (mkF m 28 #[.val (.int x0), .val (.int x1), .val (.int ((x0 &&& (2147483647 : Int32)) % (5 : Int32))), .val (.int ((x1 &&& (2147483647 : Int32)) % (5 : Int32))), .val (.ref r1), .val (.ref r2), .unset, .unset, .unset, .unset, .unset] [(.ref r1)])) rfl (by rw [hml]; rfl) (Steps.refl _) (argsL := []) (rest := []) (lenOf pd___I rfl) rfl (by show 2 * 0 + _ ≤ _; exact Nat.le_of_eq rfl) (hb hby at_28) (fun _ _ => ⟨rfl, e19q, (by decide : 0 + 0 ≤ _), (by decide : 0 + 0 ≤ _)⟩)
  dsimp only [Pt.U, Pt.locs, Pt.cells, Pt.slots] at X20 l20 y20 z20 st20 hQ20
  subst l20 y20 z20
  obtain ⟨rfl, N20q, e20q⟩ := hQ20
  have N20 := Fr.app N19 N20q
  obtain ⟨cq21, kq21, q21a, q21b, q21c⟩ := isOf hZ e20q E_r2
  obtain ⟨_, _, ⟨T21, L21, k21, n21⟩, -, X21, ⟨Lc21, hQ21, l21, y21, z21⟩, st21⟩ := X20.virtualBack hx (y := (⟨"com/example/brisk_tune/brisktune/music/Model", "maxStyle", "()I"⟩ : MethodName)) (z := (⟨"com/example/brisk_tune/brisktune/music/Model", "maxStyle", "()I"⟩ : MethodName)) hown (mvT hZ (hw _ (List.mem_of_getElem? (i := 10) rfl))) (mvT hZ (hw _ (List.mem_of_getElem? (i := 11) rfl))) (notFace_of_selects (args := #[]) (mvT hZ (hw _ (List.mem_of_getElem? (i := 13) rfl)))) (mvT hZ (hw _ (List.mem_of_getElem? (i := 13) rfl))) (mvT hZ (hw _ (List.mem_of_getElem? (i := 12) rfl))) (by decide) (backOf (W := 0) (rm_2 l Z a0 hw [] r2 ((x1 &&& (2147483647 : Int32)) % (5 : Int32)) t_ h0 n0 Z0 E_r2 F_r2 h52 ht) hZ (hw _ (List.mem_of_getElem? (i := 14) rfl)) (hw _ (List.mem_of_getElem? (i := 6) rfl)) (by decide) (by decide)) q21a q21c (g := (mkF m 35 #[.val (.int x0), .val (.int x1), .val (.int ((x0 &&& (2147483647 : Int32)) % (5 : Int32))), .val (.int ((x1 &&& (2147483647 : Int32)) % (5 : Int32))), .val (.ref r1), .val (.ref r2), .val (.int s_), .unset, .unset, .unset, .unset] [(.ref r2)])) rfl (by rw [hml]; rfl) (Steps.refl _) (argsL := []) (rest := []) (lenOf pd___I rfl) rfl (by show 2 * 0 + _ ≤ _; exact Nat.le_of_eq rfl) (hb hby at_35) (fun _ _ => ⟨rfl, e20q, (by decide : 0 + 0 ≤ _), (by decide : 0 + 0 ≤ _)⟩)
  dsimp only [Pt.U, Pt.locs, Pt.cells, Pt.slots] at X21 l21 y21 z21 st21 hQ21
  subst l21 y21 z21
  obtain ⟨rfl, N21q, e21q⟩ := hQ21
  have N21 := Fr.app N20 N21q
  have pw22 : ∀ t, Steps p.tables e below (T21.setTop (mkF m 42 #[.val (.int x0), .val (.int x1), .val (.int ((x0 &&& (2147483647 : Int32)) % (5 : Int32))), .val (.int ((x1 &&& (2147483647 : Int32)) % (5 : Int32))), .val (.ref r1), .val (.ref r2), .val (.int s_), .val (.int t_), .unset, .unset, .unset] [(.int (2 : Int32)), (.int ((x0 &&& (2147483647 : Int32)) % (5 : Int32)))])) t → Steps p.tables e below (s₁.setTop (entryFrame m #[(.int x0), (.int x1)] maxLocals)) t := by
    intro t k
    refine pw0 t ?_
    refine XS.iloadN X0.here hx rfl (hb hby at_0) rfl ?_
    show Steps p.tables e below (s₁.setTop (mkF m 1 #[.val (.int x0), .val (.int x1), .unset, .unset, .unset, .unset, .unset, .unset, .unset, .unset, .unset] [(.int x0)])) _
    refine X0.ldcInt hx hown (mvT hZ (hw _ (List.mem_of_getElem? (i := 0) rfl))) (g := (mkF m 1 #[.val (.int x0), .val (.int x1), .unset, .unset, .unset, .unset, .unset, .unset, .unset, .unset, .unset] [(.int x0)])) rfl (hb hby at_1) _ ?_
    show Steps p.tables e below (s₁.setTop (mkF m 3 #[.val (.int x0), .val (.int x1), .unset, .unset, .unset, .unset, .unset, .unset, .unset, .unset, .unset] [(.int (2147483647 : Int32)), (.int x0)])) _
    refine XS.iand X0.here hx rfl (hb hby at_3) rfl ?_
    show Steps p.tables e below (s₁.setTop (mkF m 4 #[.val (.int x0), .val (.int x1), .unset, .unset, .unset, .unset, .unset, .unset, .unset, .unset, .unset] [(.int (x0 &&& (2147483647 : Int32)))])) _
    refine XS.iconst X0.here hx rfl (hb hby at_4) ?_
    show Steps p.tables e below (s₁.setTop (mkF m 5 #[.val (.int x0), .val (.int x1), .unset, .unset, .unset, .unset, .unset, .unset, .unset, .unset, .unset] [(.int (5 : Int32)), (.int (x0 &&& (2147483647 : Int32)))])) _
    refine iremM (g := (mkF m 5 #[.val (.int x0), .val (.int x1), .unset, .unset, .unset, .unset, .unset, .unset, .unset, .unset, .unset] [(.int (5 : Int32)), (.int (x0 &&& (2147483647 : Int32)))])) X0 hx rfl (hb hby at_5) rfl (by decide) ?_
    show Steps p.tables e below (s₁.setTop (mkF m 6 #[.val (.int x0), .val (.int x1), .unset, .unset, .unset, .unset, .unset, .unset, .unset, .unset, .unset] [(.int ((x0 &&& (2147483647 : Int32)) % (5 : Int32)))])) _
    refine XS.istoreN X0.here hx rfl (hb hby at_6) rfl (l' := #[.val (.int x0), .val (.int x1), .val (.int ((x0 &&& (2147483647 : Int32)) % (5 : Int32))), .unset, .unset, .unset, .unset, .unset, .unset, .unset, .unset]) rfl ?_
    show Steps p.tables e below (s₁.setTop (mkF m 7 #[.val (.int x0), .val (.int x1), .val (.int ((x0 &&& (2147483647 : Int32)) % (5 : Int32))), .unset, .unset, .unset, .unset, .unset, .unset, .unset, .unset] [])) _
    refine XS.iloadN X0.here hx rfl (hb hby at_7) rfl ?_
    show Steps p.tables e below (s₁.setTop (mkF m 8 #[.val (.int x0), .val (.int x1), .val (.int ((x0 &&& (2147483647 : Int32)) % (5 : Int32))), .unset, .unset, .unset, .unset, .unset, .unset, .unset, .unset] [(.int x1)])) _
    refine X0.ldcInt hx hown (mvT hZ (hw _ (List.mem_of_getElem? (i := 0) rfl))) (g := (mkF m 8 #[.val (.int x0), .val (.int x1), .val (.int ((x0 &&& (2147483647 : Int32)) % (5 : Int32))), .unset, .unset, .unset, .unset, .unset, .unset, .unset, .unset] [(.int x1)])) rfl (hb hby at_8) _ ?_
    show Steps p.tables e below (s₁.setTop (mkF m 10 #[.val (.int x0), .val (.int x1), .val (.int ((x0 &&& (2147483647 : Int32)) % (5 : Int32))), .unset, .unset, .unset, .unset, .unset, .unset, .unset, .unset] [(.int (2147483647 : Int32)), (.int x1)])) _
    refine XS.iand X0.here hx rfl (hb hby at_10) rfl ?_
    show Steps p.tables e below (s₁.setTop (mkF m 11 #[.val (.int x0), .val (.int x1), .val (.int ((x0 &&& (2147483647 : Int32)) % (5 : Int32))), .unset, .unset, .unset, .unset, .unset, .unset, .unset, .unset] [(.int (x1 &&& (2147483647 : Int32)))])) _
    refine XS.iconst X0.here hx rfl (hb hby at_11) ?_
    show Steps p.tables e below (s₁.setTop (mkF m 12 #[.val (.int x0), .val (.int x1), .val (.int ((x0 &&& (2147483647 : Int32)) % (5 : Int32))), .unset, .unset, .unset, .unset, .unset, .unset, .unset, .unset] [(.int (5 : Int32)), (.int (x1 &&& (2147483647 : Int32)))])) _
    refine iremM (g := (mkF m 12 #[.val (.int x0), .val (.int x1), .val (.int ((x0 &&& (2147483647 : Int32)) % (5 : Int32))), .unset, .unset, .unset, .unset, .unset, .unset, .unset, .unset] [(.int (5 : Int32)), (.int (x1 &&& (2147483647 : Int32)))])) X0 hx rfl (hb hby at_12) rfl (by decide) ?_
    show Steps p.tables e below (s₁.setTop (mkF m 13 #[.val (.int x0), .val (.int x1), .val (.int ((x0 &&& (2147483647 : Int32)) % (5 : Int32))), .unset, .unset, .unset, .unset, .unset, .unset, .unset, .unset] [(.int ((x1 &&& (2147483647 : Int32)) % (5 : Int32)))])) _
    refine XS.istoreN X0.here hx rfl (hb hby at_13) rfl (l' := #[.val (.int x0), .val (.int x1), .val (.int ((x0 &&& (2147483647 : Int32)) % (5 : Int32))), .val (.int ((x1 &&& (2147483647 : Int32)) % (5 : Int32))), .unset, .unset, .unset, .unset, .unset, .unset, .unset]) rfl ?_
    show Steps p.tables e below (s₁.setTop (mkF m 14 #[.val (.int x0), .val (.int x1), .val (.int ((x0 &&& (2147483647 : Int32)) % (5 : Int32))), .val (.int ((x1 &&& (2147483647 : Int32)) % (5 : Int32))), .unset, .unset, .unset, .unset, .unset, .unset, .unset] [])) _
    refine XS.iloadN X0.here hx rfl (hb hby at_14) rfl ?_
    show Steps p.tables e below (s₁.setTop (mkF m 15 #[.val (.int x0), .val (.int x1), .val (.int ((x0 &&& (2147483647 : Int32)) % (5 : Int32))), .val (.int ((x1 &&& (2147483647 : Int32)) % (5 : Int32))), .unset, .unset, .unset, .unset, .unset, .unset, .unset] [(.int ((x0 &&& (2147483647 : Int32)) % (5 : Int32)))])) _
    refine st18 _ ?_
    show Steps p.tables e below (T18.setTop (mkF m 18 #[.val (.int x0), .val (.int x1), .val (.int ((x0 &&& (2147483647 : Int32)) % (5 : Int32))), .val (.int ((x1 &&& (2147483647 : Int32)) % (5 : Int32))), .unset, .unset, .unset, .unset, .unset, .unset, .unset] [(.ref r1)])) _
    refine XS.astore X18.here hx rfl (hb hby at_18) rfl rfl (l' := #[.val (.int x0), .val (.int x1), .val (.int ((x0 &&& (2147483647 : Int32)) % (5 : Int32))), .val (.int ((x1 &&& (2147483647 : Int32)) % (5 : Int32))), .val (.ref r1), .unset, .unset, .unset, .unset, .unset, .unset]) rfl ?_
    show Steps p.tables e below (T18.setTop (mkF m 20 #[.val (.int x0), .val (.int x1), .val (.int ((x0 &&& (2147483647 : Int32)) % (5 : Int32))), .val (.int ((x1 &&& (2147483647 : Int32)) % (5 : Int32))), .val (.ref r1), .unset, .unset, .unset, .unset, .unset, .unset] [])) _
    refine XS.iloadN X18.here hx rfl (hb hby at_20) rfl ?_
    show Steps p.tables e below (T18.setTop (mkF m 21 #[.val (.int x0), .val (.int x1), .val (.int ((x0 &&& (2147483647 : Int32)) % (5 : Int32))), .val (.int ((x1 &&& (2147483647 : Int32)) % (5 : Int32))), .val (.ref r1), .unset, .unset, .unset, .unset, .unset, .unset] [(.int ((x1 &&& (2147483647 : Int32)) % (5 : Int32)))])) _
    refine st19 _ ?_
    show Steps p.tables e below (T19.setTop (mkF m 24 #[.val (.int x0), .val (.int x1), .val (.int ((x0 &&& (2147483647 : Int32)) % (5 : Int32))), .val (.int ((x1 &&& (2147483647 : Int32)) % (5 : Int32))), .val (.ref r1), .unset, .unset, .unset, .unset, .unset, .unset] [(.ref r2)])) _
    refine XS.astore X19.here hx rfl (hb hby at_24) rfl rfl (l' := #[.val (.int x0), .val (.int x1), .val (.int ((x0 &&& (2147483647 : Int32)) % (5 : Int32))), .val (.int ((x1 &&& (2147483647 : Int32)) % (5 : Int32))), .val (.ref r1), .val (.ref r2), .unset, .unset, .unset, .unset, .unset]) rfl ?_
    show Steps p.tables e below (T19.setTop (mkF m 26 #[.val (.int x0), .val (.int x1), .val (.int ((x0 &&& (2147483647 : Int32)) % (5 : Int32))), .val (.int ((x1 &&& (2147483647 : Int32)) % (5 : Int32))), .val (.ref r1), .val (.ref r2), .unset, .unset, .unset, .unset, .unset] [])) _
    refine XS.aload X19.here hx rfl (hb hby at_26) rfl rfl ?_
    show Steps p.tables e below (T19.setTop (mkF m 28 #[.val (.int x0), .val (.int x1), .val (.int ((x0 &&& (2147483647 : Int32)) % (5 : Int32))), .val (.int ((x1 &&& (2147483647 : Int32)) % (5 : Int32))), .val (.ref r1), .val (.ref r2), .unset, .unset, .unset, .unset, .unset] [(.ref r1)])) _
    refine st20.trans ?_
    show Steps p.tables e below (T20.setTop (mkF m 31 #[.val (.int x0), .val (.int x1), .val (.int ((x0 &&& (2147483647 : Int32)) % (5 : Int32))), .val (.int ((x1 &&& (2147483647 : Int32)) % (5 : Int32))), .val (.ref r1), .val (.ref r2), .unset, .unset, .unset, .unset, .unset] [(.int s_)])) _
    refine XS.istore X20.here hx rfl (hb hby at_31) rfl (l' := #[.val (.int x0), .val (.int x1), .val (.int ((x0 &&& (2147483647 : Int32)) % (5 : Int32))), .val (.int ((x1 &&& (2147483647 : Int32)) % (5 : Int32))), .val (.ref r1), .val (.ref r2), .val (.int s_), .unset, .unset, .unset, .unset]) rfl ?_
    show Steps p.tables e below (T20.setTop (mkF m 33 #[.val (.int x0), .val (.int x1), .val (.int ((x0 &&& (2147483647 : Int32)) % (5 : Int32))), .val (.int ((x1 &&& (2147483647 : Int32)) % (5 : Int32))), .val (.ref r1), .val (.ref r2), .val (.int s_), .unset, .unset, .unset, .unset] [])) _
    refine XS.aload X20.here hx rfl (hb hby at_33) rfl rfl ?_
    show Steps p.tables e below (T20.setTop (mkF m 35 #[.val (.int x0), .val (.int x1), .val (.int ((x0 &&& (2147483647 : Int32)) % (5 : Int32))), .val (.int ((x1 &&& (2147483647 : Int32)) % (5 : Int32))), .val (.ref r1), .val (.ref r2), .val (.int s_), .unset, .unset, .unset, .unset] [(.ref r2)])) _
    refine st21.trans ?_
    show Steps p.tables e below (T21.setTop (mkF m 38 #[.val (.int x0), .val (.int x1), .val (.int ((x0 &&& (2147483647 : Int32)) % (5 : Int32))), .val (.int ((x1 &&& (2147483647 : Int32)) % (5 : Int32))), .val (.ref r1), .val (.ref r2), .val (.int s_), .unset, .unset, .unset, .unset] [(.int t_)])) _
    refine XS.istore X21.here hx rfl (hb hby at_38) rfl (l' := #[.val (.int x0), .val (.int x1), .val (.int ((x0 &&& (2147483647 : Int32)) % (5 : Int32))), .val (.int ((x1 &&& (2147483647 : Int32)) % (5 : Int32))), .val (.ref r1), .val (.ref r2), .val (.int s_), .val (.int t_), .unset, .unset, .unset]) rfl ?_
    show Steps p.tables e below (T21.setTop (mkF m 40 #[.val (.int x0), .val (.int x1), .val (.int ((x0 &&& (2147483647 : Int32)) % (5 : Int32))), .val (.int ((x1 &&& (2147483647 : Int32)) % (5 : Int32))), .val (.ref r1), .val (.ref r2), .val (.int s_), .val (.int t_), .unset, .unset, .unset] [])) _
    refine XS.iloadN X21.here hx rfl (hb hby at_40) rfl ?_
    show Steps p.tables e below (T21.setTop (mkF m 41 #[.val (.int x0), .val (.int x1), .val (.int ((x0 &&& (2147483647 : Int32)) % (5 : Int32))), .val (.int ((x1 &&& (2147483647 : Int32)) % (5 : Int32))), .val (.ref r1), .val (.ref r2), .val (.int s_), .val (.int t_), .unset, .unset, .unset] [(.int ((x0 &&& (2147483647 : Int32)) % (5 : Int32)))])) _
    refine XS.iconst X21.here hx rfl (hb hby at_41) ?_
    show Steps p.tables e below (T21.setTop (mkF m 42 #[.val (.int x0), .val (.int x1), .val (.int ((x0 &&& (2147483647 : Int32)) % (5 : Int32))), .val (.int ((x1 &&& (2147483647 : Int32)) % (5 : Int32))), .val (.ref r1), .val (.ref r2), .val (.int s_), .val (.int t_), .unset, .unset, .unset] [(.int (2 : Int32)), (.int ((x0 &&& (2147483647 : Int32)) % (5 : Int32)))])) _
    exact k
  by_cases hc23 : ((x0 &&& (2147483647 : Int32)) % (5 : Int32)) < (2 : Int32)
  · skip
    have pw24 : ∀ t, Steps p.tables e below (T21.setTop (mkF m 72 #[.val (.int x0), .val (.int x1), .val (.int ((x0 &&& (2147483647 : Int32)) % (5 : Int32))), .val (.int ((x1 &&& (2147483647 : Int32)) % (5 : Int32))), .val (.ref r1), .val (.ref r2), .val (.int s_), .val (.int t_), .val (.int (200 : Int32)), .val (.int (1 : Int32)), .unset] [(.int ((x1 &&& (2147483647 : Int32)) % (5 : Int32))), (.int ((x0 &&& (2147483647 : Int32)) % (5 : Int32)))])) t → Steps p.tables e below (s₁.setTop (entryFrame m #[(.int x0), (.int x1)] maxLocals)) t := by
      intro t k
      refine pw22 t ?_
      refine XS.icmpNo X21.here hx rfl (hb hby at_42) rfl (tlt hc23).2.1 ?_
      show Steps p.tables e below (T21.setTop (mkF m 45 #[.val (.int x0), .val (.int x1), .val (.int ((x0 &&& (2147483647 : Int32)) % (5 : Int32))), .val (.int ((x1 &&& (2147483647 : Int32)) % (5 : Int32))), .val (.ref r1), .val (.ref r2), .val (.int s_), .val (.int t_), .unset, .unset, .unset] [])) _
      refine XS.sipush X21.here hx rfl (hb hby at_45) ?_
      show Steps p.tables e below (T21.setTop (mkF m 48 #[.val (.int x0), .val (.int x1), .val (.int ((x0 &&& (2147483647 : Int32)) % (5 : Int32))), .val (.int ((x1 &&& (2147483647 : Int32)) % (5 : Int32))), .val (.ref r1), .val (.ref r2), .val (.int s_), .val (.int t_), .unset, .unset, .unset] [(.int (200 : Int32))])) _
      refine XS.goto X21.here hx rfl (pc0 := 48) (pc' := 54) rfl (hb hby at_48) (by decide) (by decide) ?_
      show Steps p.tables e below (T21.setTop (mkF m 54 #[.val (.int x0), .val (.int x1), .val (.int ((x0 &&& (2147483647 : Int32)) % (5 : Int32))), .val (.int ((x1 &&& (2147483647 : Int32)) % (5 : Int32))), .val (.ref r1), .val (.ref r2), .val (.int s_), .val (.int t_), .unset, .unset, .unset] [(.int (200 : Int32))])) _
      refine XS.istore X21.here hx rfl (hb hby at_54) rfl (l' := #[.val (.int x0), .val (.int x1), .val (.int ((x0 &&& (2147483647 : Int32)) % (5 : Int32))), .val (.int ((x1 &&& (2147483647 : Int32)) % (5 : Int32))), .val (.ref r1), .val (.ref r2), .val (.int s_), .val (.int t_), .val (.int (200 : Int32)), .unset, .unset]) rfl ?_
      show Steps p.tables e below (T21.setTop (mkF m 56 #[.val (.int x0), .val (.int x1), .val (.int ((x0 &&& (2147483647 : Int32)) % (5 : Int32))), .val (.int ((x1 &&& (2147483647 : Int32)) % (5 : Int32))), .val (.ref r1), .val (.ref r2), .val (.int s_), .val (.int t_), .val (.int (200 : Int32)), .unset, .unset] [])) _
      refine XS.iload X21.here hx rfl (hb hby at_56) rfl ?_
      show Steps p.tables e below (T21.setTop (mkF m 58 #[.val (.int x0), .val (.int x1), .val (.int ((x0 &&& (2147483647 : Int32)) % (5 : Int32))), .val (.int ((x1 &&& (2147483647 : Int32)) % (5 : Int32))), .val (.ref r1), .val (.ref r2), .val (.int s_), .val (.int t_), .val (.int (200 : Int32)), .unset, .unset] [(.int s_)])) _
      refine XS.iload X21.here hx rfl (hb hby at_58) rfl ?_
      show Steps p.tables e below (T21.setTop (mkF m 60 #[.val (.int x0), .val (.int x1), .val (.int ((x0 &&& (2147483647 : Int32)) % (5 : Int32))), .val (.int ((x1 &&& (2147483647 : Int32)) % (5 : Int32))), .val (.ref r1), .val (.ref r2), .val (.int s_), .val (.int t_), .val (.int (200 : Int32)), .unset, .unset] [(.int (200 : Int32)), (.int s_)])) _
      refine XS.icmpNo X21.here hx rfl (hb hby at_60) rfl (teq (hs.symm.trans (if_pos hc23) : s_ = (200 : Int32))).2 ?_
      show Steps p.tables e below (T21.setTop (mkF m 63 #[.val (.int x0), .val (.int x1), .val (.int ((x0 &&& (2147483647 : Int32)) % (5 : Int32))), .val (.int ((x1 &&& (2147483647 : Int32)) % (5 : Int32))), .val (.ref r1), .val (.ref r2), .val (.int s_), .val (.int t_), .val (.int (200 : Int32)), .unset, .unset] [])) _
      refine XS.iconst X21.here hx rfl (hb hby at_63) ?_
      show Steps p.tables e below (T21.setTop (mkF m 64 #[.val (.int x0), .val (.int x1), .val (.int ((x0 &&& (2147483647 : Int32)) % (5 : Int32))), .val (.int ((x1 &&& (2147483647 : Int32)) % (5 : Int32))), .val (.ref r1), .val (.ref r2), .val (.int s_), .val (.int t_), .val (.int (200 : Int32)), .unset, .unset] [(.int (1 : Int32))])) _
      refine XS.goto X21.here hx rfl (pc0 := 64) (pc' := 68) rfl (hb hby at_64) (by decide) (by decide) ?_
      show Steps p.tables e below (T21.setTop (mkF m 68 #[.val (.int x0), .val (.int x1), .val (.int ((x0 &&& (2147483647 : Int32)) % (5 : Int32))), .val (.int ((x1 &&& (2147483647 : Int32)) % (5 : Int32))), .val (.ref r1), .val (.ref r2), .val (.int s_), .val (.int t_), .val (.int (200 : Int32)), .unset, .unset] [(.int (1 : Int32))])) _
      refine XS.istore X21.here hx rfl (hb hby at_68) rfl (l' := #[.val (.int x0), .val (.int x1), .val (.int ((x0 &&& (2147483647 : Int32)) % (5 : Int32))), .val (.int ((x1 &&& (2147483647 : Int32)) % (5 : Int32))), .val (.ref r1), .val (.ref r2), .val (.int s_), .val (.int t_), .val (.int (200 : Int32)), .val (.int (1 : Int32)), .unset]) rfl ?_
      show Steps p.tables e below (T21.setTop (mkF m 70 #[.val (.int x0), .val (.int x1), .val (.int ((x0 &&& (2147483647 : Int32)) % (5 : Int32))), .val (.int ((x1 &&& (2147483647 : Int32)) % (5 : Int32))), .val (.ref r1), .val (.ref r2), .val (.int s_), .val (.int t_), .val (.int (200 : Int32)), .val (.int (1 : Int32)), .unset] [])) _
      refine XS.iloadN X21.here hx rfl (hb hby at_70) rfl ?_
      show Steps p.tables e below (T21.setTop (mkF m 71 #[.val (.int x0), .val (.int x1), .val (.int ((x0 &&& (2147483647 : Int32)) % (5 : Int32))), .val (.int ((x1 &&& (2147483647 : Int32)) % (5 : Int32))), .val (.ref r1), .val (.ref r2), .val (.int s_), .val (.int t_), .val (.int (200 : Int32)), .val (.int (1 : Int32)), .unset] [(.int ((x0 &&& (2147483647 : Int32)) % (5 : Int32)))])) _
      refine XS.iloadN X21.here hx rfl (hb hby at_71) rfl ?_
      show Steps p.tables e below (T21.setTop (mkF m 72 #[.val (.int x0), .val (.int x1), .val (.int ((x0 &&& (2147483647 : Int32)) % (5 : Int32))), .val (.int ((x1 &&& (2147483647 : Int32)) % (5 : Int32))), .val (.ref r1), .val (.ref r2), .val (.int s_), .val (.int t_), .val (.int (200 : Int32)), .val (.int (1 : Int32)), .unset] [(.int ((x1 &&& (2147483647 : Int32)) % (5 : Int32))), (.int ((x0 &&& (2147483647 : Int32)) % (5 : Int32)))])) _
      exact k
    by_cases hc25 : ((x1 &&& (2147483647 : Int32)) % (5 : Int32)) < ((x0 &&& (2147483647 : Int32)) % (5 : Int32))
    · skip
      obtain ⟨fs, hr, hrun, hended, hW, hsame⟩ := X21.leave (v := some (.int (1 : Int32))) (fun h => by rw [Bd.returns] at h; cases h)
      refine ⟨_, _, pw24 _ ?_, hrun, hended, _, _, rfl, ?_, ⟨_, rfl⟩, hW, hsame.mono (by decide) (by decide)⟩
      · skip
        refine XS.icmpYes X21.here hx rfl (pc0 := 72) (pc' := 82) rfl (hb hby at_72) rfl (tlt hc25).2.2.1 (by decide) (by decide) ?_
        show Steps p.tables e below (T21.setTop (mkF m 82 #[.val (.int x0), .val (.int x1), .val (.int ((x0 &&& (2147483647 : Int32)) % (5 : Int32))), .val (.int ((x1 &&& (2147483647 : Int32)) % (5 : Int32))), .val (.ref r1), .val (.ref r2), .val (.int s_), .val (.int t_), .val (.int (200 : Int32)), .val (.int (1 : Int32)), .unset] [])) _
        refine XS.iconst X21.here hx rfl (hb hby at_82) ?_
        show Steps p.tables e below (T21.setTop (mkF m 83 #[.val (.int x0), .val (.int x1), .val (.int ((x0 &&& (2147483647 : Int32)) % (5 : Int32))), .val (.int ((x1 &&& (2147483647 : Int32)) % (5 : Int32))), .val (.ref r1), .val (.ref r2), .val (.int s_), .val (.int t_), .val (.int (200 : Int32)), .val (.int (1 : Int32)), .unset] [(.int (1 : Int32))])) _
        refine XS.goto X21.here hx rfl (pc0 := 83) (pc' := 87) rfl (hb hby at_83) (by decide) (by decide) ?_
        show Steps p.tables e below (T21.setTop (mkF m 87 #[.val (.int x0), .val (.int x1), .val (.int ((x0 &&& (2147483647 : Int32)) % (5 : Int32))), .val (.int ((x1 &&& (2147483647 : Int32)) % (5 : Int32))), .val (.ref r1), .val (.ref r2), .val (.int s_), .val (.int t_), .val (.int (200 : Int32)), .val (.int (1 : Int32)), .unset] [(.int (1 : Int32))])) _
        refine XS.istore X21.here hx rfl (hb hby at_87) rfl (l' := #[.val (.int x0), .val (.int x1), .val (.int ((x0 &&& (2147483647 : Int32)) % (5 : Int32))), .val (.int ((x1 &&& (2147483647 : Int32)) % (5 : Int32))), .val (.ref r1), .val (.ref r2), .val (.int s_), .val (.int t_), .val (.int (200 : Int32)), .val (.int (1 : Int32)), .val (.int (1 : Int32))]) rfl ?_
        show Steps p.tables e below (T21.setTop (mkF m 89 #[.val (.int x0), .val (.int x1), .val (.int ((x0 &&& (2147483647 : Int32)) % (5 : Int32))), .val (.int ((x1 &&& (2147483647 : Int32)) % (5 : Int32))), .val (.ref r1), .val (.ref r2), .val (.int s_), .val (.int t_), .val (.int (200 : Int32)), .val (.int (1 : Int32)), .val (.int (1 : Int32))] [])) _
        refine XS.iload X21.here hx rfl (hb hby at_89) rfl ?_
        show Steps p.tables e below (T21.setTop (mkF m 91 #[.val (.int x0), .val (.int x1), .val (.int ((x0 &&& (2147483647 : Int32)) % (5 : Int32))), .val (.int ((x1 &&& (2147483647 : Int32)) % (5 : Int32))), .val (.ref r1), .val (.ref r2), .val (.int s_), .val (.int t_), .val (.int (200 : Int32)), .val (.int (1 : Int32)), .val (.int (1 : Int32))] [(.int (1 : Int32))])) _
        refine XS.ifNo X21.here hx rfl (hb hby at_91) rfl ((if0 _ _).trans (feq (by decide : ¬ ((1 : Int32) = (0 : Int32)))).1) ?_
        show Steps p.tables e below (T21.setTop (mkF m 94 #[.val (.int x0), .val (.int x1), .val (.int ((x0 &&& (2147483647 : Int32)) % (5 : Int32))), .val (.int ((x1 &&& (2147483647 : Int32)) % (5 : Int32))), .val (.ref r1), .val (.ref r2), .val (.int s_), .val (.int t_), .val (.int (200 : Int32)), .val (.int (1 : Int32)), .val (.int (1 : Int32))] [])) _
        refine XS.iload X21.here hx rfl (hb hby at_94) rfl ?_
        show Steps p.tables e below (T21.setTop (mkF m 96 #[.val (.int x0), .val (.int x1), .val (.int ((x0 &&& (2147483647 : Int32)) % (5 : Int32))), .val (.int ((x1 &&& (2147483647 : Int32)) % (5 : Int32))), .val (.ref r1), .val (.ref r2), .val (.int s_), .val (.int t_), .val (.int (200 : Int32)), .val (.int (1 : Int32)), .val (.int (1 : Int32))] [(.int (1 : Int32))])) _
        refine XS.ifNo X21.here hx rfl (hb hby at_96) rfl ((if0 _ _).trans (feq (by decide : ¬ ((1 : Int32) = (0 : Int32)))).1) ?_
        show Steps p.tables e below (T21.setTop (mkF m 99 #[.val (.int x0), .val (.int x1), .val (.int ((x0 &&& (2147483647 : Int32)) % (5 : Int32))), .val (.int ((x1 &&& (2147483647 : Int32)) % (5 : Int32))), .val (.ref r1), .val (.ref r2), .val (.int s_), .val (.int t_), .val (.int (200 : Int32)), .val (.int (1 : Int32)), .val (.int (1 : Int32))] [])) _
        refine XS.iconst X21.here hx rfl (hb hby at_99) ?_
        show Steps p.tables e below (T21.setTop (mkF m 100 #[.val (.int x0), .val (.int x1), .val (.int ((x0 &&& (2147483647 : Int32)) % (5 : Int32))), .val (.int ((x1 &&& (2147483647 : Int32)) % (5 : Int32))), .val (.ref r1), .val (.ref r2), .val (.int s_), .val (.int t_), .val (.int (200 : Int32)), .val (.int (1 : Int32)), .val (.int (1 : Int32))] [(.int (1 : Int32))])) _
        refine XS.goto X21.here hx rfl (pc0 := 100) (pc' := 104) rfl (hb hby at_100) (by decide) (by decide) ?_
        show Steps p.tables e below (T21.setTop (mkF m 104 #[.val (.int x0), .val (.int x1), .val (.int ((x0 &&& (2147483647 : Int32)) % (5 : Int32))), .val (.int ((x1 &&& (2147483647 : Int32)) % (5 : Int32))), .val (.ref r1), .val (.ref r2), .val (.int s_), .val (.int t_), .val (.int (200 : Int32)), .val (.int (1 : Int32)), .val (.int (1 : Int32))] [(.int (1 : Int32))])) _
        exact retN X21 hx (t := .boolean) Bd.returns (by simp) (hb hby at_104) hr
      · show Q_0 Z x0 x1 b0 b1 b2 b3 b4 r1 r2 s_ t_ h0 n0 _ T21.heap _
        rw [e21q]
        exact ⟨rfl, N21⟩
    · skip
      obtain ⟨fs, hr, hrun, hended, hW, hsame⟩ := X21.leave (v := some (.int (1 : Int32))) (fun h => by rw [Bd.returns] at h; cases h)
      refine ⟨_, _, pw24 _ ?_, hrun, hended, _, _, rfl, ?_, ⟨_, rfl⟩, hW, hsame.mono (by decide) (by decide)⟩
      · skip
        refine XS.icmpNo X21.here hx rfl (hb hby at_72) rfl (flt hc25).2.2.1 ?_
        show Steps p.tables e below (T21.setTop (mkF m 75 #[.val (.int x0), .val (.int x1), .val (.int ((x0 &&& (2147483647 : Int32)) % (5 : Int32))), .val (.int ((x1 &&& (2147483647 : Int32)) % (5 : Int32))), .val (.ref r1), .val (.ref r2), .val (.int s_), .val (.int t_), .val (.int (200 : Int32)), .val (.int (1 : Int32)), .unset] [])) _
        refine XS.iload X21.here hx rfl (hb hby at_75) rfl ?_
        show Steps p.tables e below (T21.setTop (mkF m 77 #[.val (.int x0), .val (.int x1), .val (.int ((x0 &&& (2147483647 : Int32)) % (5 : Int32))), .val (.int ((x1 &&& (2147483647 : Int32)) % (5 : Int32))), .val (.ref r1), .val (.ref r2), .val (.int s_), .val (.int t_), .val (.int (200 : Int32)), .val (.int (1 : Int32)), .unset] [(.int s_)])) _
        refine XS.iload X21.here hx rfl (hb hby at_77) rfl ?_
        show Steps p.tables e below (T21.setTop (mkF m 79 #[.val (.int x0), .val (.int x1), .val (.int ((x0 &&& (2147483647 : Int32)) % (5 : Int32))), .val (.int ((x1 &&& (2147483647 : Int32)) % (5 : Int32))), .val (.ref r1), .val (.ref r2), .val (.int s_), .val (.int t_), .val (.int (200 : Int32)), .val (.int (1 : Int32)), .unset] [(.int t_), (.int s_)])) _
        refine XS.icmpNo X21.here hx rfl (hb hby at_79) rfl (flt (hm.resolve_left hc25 : ¬ (t_ < s_))).2.2.1 ?_
        show Steps p.tables e below (T21.setTop (mkF m 82 #[.val (.int x0), .val (.int x1), .val (.int ((x0 &&& (2147483647 : Int32)) % (5 : Int32))), .val (.int ((x1 &&& (2147483647 : Int32)) % (5 : Int32))), .val (.ref r1), .val (.ref r2), .val (.int s_), .val (.int t_), .val (.int (200 : Int32)), .val (.int (1 : Int32)), .unset] [])) _
        refine XS.iconst X21.here hx rfl (hb hby at_82) ?_
        show Steps p.tables e below (T21.setTop (mkF m 83 #[.val (.int x0), .val (.int x1), .val (.int ((x0 &&& (2147483647 : Int32)) % (5 : Int32))), .val (.int ((x1 &&& (2147483647 : Int32)) % (5 : Int32))), .val (.ref r1), .val (.ref r2), .val (.int s_), .val (.int t_), .val (.int (200 : Int32)), .val (.int (1 : Int32)), .unset] [(.int (1 : Int32))])) _
        refine XS.goto X21.here hx rfl (pc0 := 83) (pc' := 87) rfl (hb hby at_83) (by decide) (by decide) ?_
        show Steps p.tables e below (T21.setTop (mkF m 87 #[.val (.int x0), .val (.int x1), .val (.int ((x0 &&& (2147483647 : Int32)) % (5 : Int32))), .val (.int ((x1 &&& (2147483647 : Int32)) % (5 : Int32))), .val (.ref r1), .val (.ref r2), .val (.int s_), .val (.int t_), .val (.int (200 : Int32)), .val (.int (1 : Int32)), .unset] [(.int (1 : Int32))])) _
        refine XS.istore X21.here hx rfl (hb hby at_87) rfl (l' := #[.val (.int x0), .val (.int x1), .val (.int ((x0 &&& (2147483647 : Int32)) % (5 : Int32))), .val (.int ((x1 &&& (2147483647 : Int32)) % (5 : Int32))), .val (.ref r1), .val (.ref r2), .val (.int s_), .val (.int t_), .val (.int (200 : Int32)), .val (.int (1 : Int32)), .val (.int (1 : Int32))]) rfl ?_
        show Steps p.tables e below (T21.setTop (mkF m 89 #[.val (.int x0), .val (.int x1), .val (.int ((x0 &&& (2147483647 : Int32)) % (5 : Int32))), .val (.int ((x1 &&& (2147483647 : Int32)) % (5 : Int32))), .val (.ref r1), .val (.ref r2), .val (.int s_), .val (.int t_), .val (.int (200 : Int32)), .val (.int (1 : Int32)), .val (.int (1 : Int32))] [])) _
        refine XS.iload X21.here hx rfl (hb hby at_89) rfl ?_
        show Steps p.tables e below (T21.setTop (mkF m 91 #[.val (.int x0), .val (.int x1), .val (.int ((x0 &&& (2147483647 : Int32)) % (5 : Int32))), .val (.int ((x1 &&& (2147483647 : Int32)) % (5 : Int32))), .val (.ref r1), .val (.ref r2), .val (.int s_), .val (.int t_), .val (.int (200 : Int32)), .val (.int (1 : Int32)), .val (.int (1 : Int32))] [(.int (1 : Int32))])) _
        refine XS.ifNo X21.here hx rfl (hb hby at_91) rfl ((if0 _ _).trans (feq (by decide : ¬ ((1 : Int32) = (0 : Int32)))).1) ?_
        show Steps p.tables e below (T21.setTop (mkF m 94 #[.val (.int x0), .val (.int x1), .val (.int ((x0 &&& (2147483647 : Int32)) % (5 : Int32))), .val (.int ((x1 &&& (2147483647 : Int32)) % (5 : Int32))), .val (.ref r1), .val (.ref r2), .val (.int s_), .val (.int t_), .val (.int (200 : Int32)), .val (.int (1 : Int32)), .val (.int (1 : Int32))] [])) _
        refine XS.iload X21.here hx rfl (hb hby at_94) rfl ?_
        show Steps p.tables e below (T21.setTop (mkF m 96 #[.val (.int x0), .val (.int x1), .val (.int ((x0 &&& (2147483647 : Int32)) % (5 : Int32))), .val (.int ((x1 &&& (2147483647 : Int32)) % (5 : Int32))), .val (.ref r1), .val (.ref r2), .val (.int s_), .val (.int t_), .val (.int (200 : Int32)), .val (.int (1 : Int32)), .val (.int (1 : Int32))] [(.int (1 : Int32))])) _
        refine XS.ifNo X21.here hx rfl (hb hby at_96) rfl ((if0 _ _).trans (feq (by decide : ¬ ((1 : Int32) = (0 : Int32)))).1) ?_
        show Steps p.tables e below (T21.setTop (mkF m 99 #[.val (.int x0), .val (.int x1), .val (.int ((x0 &&& (2147483647 : Int32)) % (5 : Int32))), .val (.int ((x1 &&& (2147483647 : Int32)) % (5 : Int32))), .val (.ref r1), .val (.ref r2), .val (.int s_), .val (.int t_), .val (.int (200 : Int32)), .val (.int (1 : Int32)), .val (.int (1 : Int32))] [])) _
        refine XS.iconst X21.here hx rfl (hb hby at_99) ?_
        show Steps p.tables e below (T21.setTop (mkF m 100 #[.val (.int x0), .val (.int x1), .val (.int ((x0 &&& (2147483647 : Int32)) % (5 : Int32))), .val (.int ((x1 &&& (2147483647 : Int32)) % (5 : Int32))), .val (.ref r1), .val (.ref r2), .val (.int s_), .val (.int t_), .val (.int (200 : Int32)), .val (.int (1 : Int32)), .val (.int (1 : Int32))] [(.int (1 : Int32))])) _
        refine XS.goto X21.here hx rfl (pc0 := 100) (pc' := 104) rfl (hb hby at_100) (by decide) (by decide) ?_
        show Steps p.tables e below (T21.setTop (mkF m 104 #[.val (.int x0), .val (.int x1), .val (.int ((x0 &&& (2147483647 : Int32)) % (5 : Int32))), .val (.int ((x1 &&& (2147483647 : Int32)) % (5 : Int32))), .val (.ref r1), .val (.ref r2), .val (.int s_), .val (.int t_), .val (.int (200 : Int32)), .val (.int (1 : Int32)), .val (.int (1 : Int32))] [(.int (1 : Int32))])) _
        exact retN X21 hx (t := .boolean) Bd.returns (by simp) (hb hby at_104) hr
      · show Q_0 Z x0 x1 b0 b1 b2 b3 b4 r1 r2 s_ t_ h0 n0 _ T21.heap _
        rw [e21q]
        exact ⟨rfl, N21⟩
  · skip
    have pw26 : ∀ t, Steps p.tables e below (T21.setTop (mkF m 72 #[.val (.int x0), .val (.int x1), .val (.int ((x0 &&& (2147483647 : Int32)) % (5 : Int32))), .val (.int ((x1 &&& (2147483647 : Int32)) % (5 : Int32))), .val (.ref r1), .val (.ref r2), .val (.int s_), .val (.int t_), .val (.int (1000 : Int32)), .val (.int (1 : Int32)), .unset] [(.int ((x1 &&& (2147483647 : Int32)) % (5 : Int32))), (.int ((x0 &&& (2147483647 : Int32)) % (5 : Int32)))])) t → Steps p.tables e below (s₁.setTop (entryFrame m #[(.int x0), (.int x1)] maxLocals)) t := by
      intro t k
      refine pw22 t ?_
      refine XS.icmpYes X21.here hx rfl (pc0 := 42) (pc' := 51) rfl (hb hby at_42) rfl (flt hc23).2.1 (by decide) (by decide) ?_
      show Steps p.tables e below (T21.setTop (mkF m 51 #[.val (.int x0), .val (.int x1), .val (.int ((x0 &&& (2147483647 : Int32)) % (5 : Int32))), .val (.int ((x1 &&& (2147483647 : Int32)) % (5 : Int32))), .val (.ref r1), .val (.ref r2), .val (.int s_), .val (.int t_), .unset, .unset, .unset] [])) _
      refine XS.sipush X21.here hx rfl (hb hby at_51) ?_
      show Steps p.tables e below (T21.setTop (mkF m 54 #[.val (.int x0), .val (.int x1), .val (.int ((x0 &&& (2147483647 : Int32)) % (5 : Int32))), .val (.int ((x1 &&& (2147483647 : Int32)) % (5 : Int32))), .val (.ref r1), .val (.ref r2), .val (.int s_), .val (.int t_), .unset, .unset, .unset] [(.int (1000 : Int32))])) _
      refine XS.istore X21.here hx rfl (hb hby at_54) rfl (l' := #[.val (.int x0), .val (.int x1), .val (.int ((x0 &&& (2147483647 : Int32)) % (5 : Int32))), .val (.int ((x1 &&& (2147483647 : Int32)) % (5 : Int32))), .val (.ref r1), .val (.ref r2), .val (.int s_), .val (.int t_), .val (.int (1000 : Int32)), .unset, .unset]) rfl ?_
      show Steps p.tables e below (T21.setTop (mkF m 56 #[.val (.int x0), .val (.int x1), .val (.int ((x0 &&& (2147483647 : Int32)) % (5 : Int32))), .val (.int ((x1 &&& (2147483647 : Int32)) % (5 : Int32))), .val (.ref r1), .val (.ref r2), .val (.int s_), .val (.int t_), .val (.int (1000 : Int32)), .unset, .unset] [])) _
      refine XS.iload X21.here hx rfl (hb hby at_56) rfl ?_
      show Steps p.tables e below (T21.setTop (mkF m 58 #[.val (.int x0), .val (.int x1), .val (.int ((x0 &&& (2147483647 : Int32)) % (5 : Int32))), .val (.int ((x1 &&& (2147483647 : Int32)) % (5 : Int32))), .val (.ref r1), .val (.ref r2), .val (.int s_), .val (.int t_), .val (.int (1000 : Int32)), .unset, .unset] [(.int s_)])) _
      refine XS.iload X21.here hx rfl (hb hby at_58) rfl ?_
      show Steps p.tables e below (T21.setTop (mkF m 60 #[.val (.int x0), .val (.int x1), .val (.int ((x0 &&& (2147483647 : Int32)) % (5 : Int32))), .val (.int ((x1 &&& (2147483647 : Int32)) % (5 : Int32))), .val (.ref r1), .val (.ref r2), .val (.int s_), .val (.int t_), .val (.int (1000 : Int32)), .unset, .unset] [(.int (1000 : Int32)), (.int s_)])) _
      refine XS.icmpNo X21.here hx rfl (hb hby at_60) rfl (teq (hs.symm.trans (if_neg hc23) : s_ = (1000 : Int32))).2 ?_
      show Steps p.tables e below (T21.setTop (mkF m 63 #[.val (.int x0), .val (.int x1), .val (.int ((x0 &&& (2147483647 : Int32)) % (5 : Int32))), .val (.int ((x1 &&& (2147483647 : Int32)) % (5 : Int32))), .val (.ref r1), .val (.ref r2), .val (.int s_), .val (.int t_), .val (.int (1000 : Int32)), .unset, .unset] [])) _
      refine XS.iconst X21.here hx rfl (hb hby at_63) ?_
      show Steps p.tables e below (T21.setTop (mkF m 64 #[.val (.int x0), .val (.int x1), .val (.int ((x0 &&& (2147483647 : Int32)) % (5 : Int32))), .val (.int ((x1 &&& (2147483647 : Int32)) % (5 : Int32))), .val (.ref r1), .val (.ref r2), .val (.int s_), .val (.int t_), .val (.int (1000 : Int32)), .unset, .unset] [(.int (1 : Int32))])) _
      refine XS.goto X21.here hx rfl (pc0 := 64) (pc' := 68) rfl (hb hby at_64) (by decide) (by decide) ?_
      show Steps p.tables e below (T21.setTop (mkF m 68 #[.val (.int x0), .val (.int x1), .val (.int ((x0 &&& (2147483647 : Int32)) % (5 : Int32))), .val (.int ((x1 &&& (2147483647 : Int32)) % (5 : Int32))), .val (.ref r1), .val (.ref r2), .val (.int s_), .val (.int t_), .val (.int (1000 : Int32)), .unset, .unset] [(.int (1 : Int32))])) _
      refine XS.istore X21.here hx rfl (hb hby at_68) rfl (l' := #[.val (.int x0), .val (.int x1), .val (.int ((x0 &&& (2147483647 : Int32)) % (5 : Int32))), .val (.int ((x1 &&& (2147483647 : Int32)) % (5 : Int32))), .val (.ref r1), .val (.ref r2), .val (.int s_), .val (.int t_), .val (.int (1000 : Int32)), .val (.int (1 : Int32)), .unset]) rfl ?_
      show Steps p.tables e below (T21.setTop (mkF m 70 #[.val (.int x0), .val (.int x1), .val (.int ((x0 &&& (2147483647 : Int32)) % (5 : Int32))), .val (.int ((x1 &&& (2147483647 : Int32)) % (5 : Int32))), .val (.ref r1), .val (.ref r2), .val (.int s_), .val (.int t_), .val (.int (1000 : Int32)), .val (.int (1 : Int32)), .unset] [])) _
      refine XS.iloadN X21.here hx rfl (hb hby at_70) rfl ?_
      show Steps p.tables e below (T21.setTop (mkF m 71 #[.val (.int x0), .val (.int x1), .val (.int ((x0 &&& (2147483647 : Int32)) % (5 : Int32))), .val (.int ((x1 &&& (2147483647 : Int32)) % (5 : Int32))), .val (.ref r1), .val (.ref r2), .val (.int s_), .val (.int t_), .val (.int (1000 : Int32)), .val (.int (1 : Int32)), .unset] [(.int ((x0 &&& (2147483647 : Int32)) % (5 : Int32)))])) _
      refine XS.iloadN X21.here hx rfl (hb hby at_71) rfl ?_
      show Steps p.tables e below (T21.setTop (mkF m 72 #[.val (.int x0), .val (.int x1), .val (.int ((x0 &&& (2147483647 : Int32)) % (5 : Int32))), .val (.int ((x1 &&& (2147483647 : Int32)) % (5 : Int32))), .val (.ref r1), .val (.ref r2), .val (.int s_), .val (.int t_), .val (.int (1000 : Int32)), .val (.int (1 : Int32)), .unset] [(.int ((x1 &&& (2147483647 : Int32)) % (5 : Int32))), (.int ((x0 &&& (2147483647 : Int32)) % (5 : Int32)))])) _
      exact k
    by_cases hc27 : ((x1 &&& (2147483647 : Int32)) % (5 : Int32)) < ((x0 &&& (2147483647 : Int32)) % (5 : Int32))
    · skip
      obtain ⟨fs, hr, hrun, hended, hW, hsame⟩ := X21.leave (v := some (.int (1 : Int32))) (fun h => by rw [Bd.returns] at h; cases h)
      refine ⟨_, _, pw26 _ ?_, hrun, hended, _, _, rfl, ?_, ⟨_, rfl⟩, hW, hsame.mono (by decide) (by decide)⟩
      · skip
        refine XS.icmpYes X21.here hx rfl (pc0 := 72) (pc' := 82) rfl (hb hby at_72) rfl (tlt hc27).2.2.1 (by decide) (by decide) ?_
        show Steps p.tables e below (T21.setTop (mkF m 82 #[.val (.int x0), .val (.int x1), .val (.int ((x0 &&& (2147483647 : Int32)) % (5 : Int32))), .val (.int ((x1 &&& (2147483647 : Int32)) % (5 : Int32))), .val (.ref r1), .val (.ref r2), .val (.int s_), .val (.int t_), .val (.int (1000 : Int32)), .val (.int (1 : Int32)), .unset] [])) _
        refine XS.iconst X21.here hx rfl (hb hby at_82) ?_
        show Steps p.tables e below (T21.setTop (mkF m 83 #[.val (.int x0), .val (.int x1), .val (.int ((x0 &&& (2147483647 : Int32)) % (5 : Int32))), .val (.int ((x1 &&& (2147483647 : Int32)) % (5 : Int32))), .val (.ref r1), .val (.ref r2), .val (.int s_), .val (.int t_), .val (.int (1000 : Int32)), .val (.int (1 : Int32)), .unset] [(.int (1 : Int32))])) _
        refine XS.goto X21.here hx rfl (pc0 := 83) (pc' := 87) rfl (hb hby at_83) (by decide) (by decide) ?_
        show Steps p.tables e below (T21.setTop (mkF m 87 #[.val (.int x0), .val (.int x1), .val (.int ((x0 &&& (2147483647 : Int32)) % (5 : Int32))), .val (.int ((x1 &&& (2147483647 : Int32)) % (5 : Int32))), .val (.ref r1), .val (.ref r2), .val (.int s_), .val (.int t_), .val (.int (1000 : Int32)), .val (.int (1 : Int32)), .unset] [(.int (1 : Int32))])) _
        refine XS.istore X21.here hx rfl (hb hby at_87) rfl (l' := #[.val (.int x0), .val (.int x1), .val (.int ((x0 &&& (2147483647 : Int32)) % (5 : Int32))), .val (.int ((x1 &&& (2147483647 : Int32)) % (5 : Int32))), .val (.ref r1), .val (.ref r2), .val (.int s_), .val (.int t_), .val (.int (1000 : Int32)), .val (.int (1 : Int32)), .val (.int (1 : Int32))]) rfl ?_
        show Steps p.tables e below (T21.setTop (mkF m 89 #[.val (.int x0), .val (.int x1), .val (.int ((x0 &&& (2147483647 : Int32)) % (5 : Int32))), .val (.int ((x1 &&& (2147483647 : Int32)) % (5 : Int32))), .val (.ref r1), .val (.ref r2), .val (.int s_), .val (.int t_), .val (.int (1000 : Int32)), .val (.int (1 : Int32)), .val (.int (1 : Int32))] [])) _
        refine XS.iload X21.here hx rfl (hb hby at_89) rfl ?_
        show Steps p.tables e below (T21.setTop (mkF m 91 #[.val (.int x0), .val (.int x1), .val (.int ((x0 &&& (2147483647 : Int32)) % (5 : Int32))), .val (.int ((x1 &&& (2147483647 : Int32)) % (5 : Int32))), .val (.ref r1), .val (.ref r2), .val (.int s_), .val (.int t_), .val (.int (1000 : Int32)), .val (.int (1 : Int32)), .val (.int (1 : Int32))] [(.int (1 : Int32))])) _
        refine XS.ifNo X21.here hx rfl (hb hby at_91) rfl ((if0 _ _).trans (feq (by decide : ¬ ((1 : Int32) = (0 : Int32)))).1) ?_
        show Steps p.tables e below (T21.setTop (mkF m 94 #[.val (.int x0), .val (.int x1), .val (.int ((x0 &&& (2147483647 : Int32)) % (5 : Int32))), .val (.int ((x1 &&& (2147483647 : Int32)) % (5 : Int32))), .val (.ref r1), .val (.ref r2), .val (.int s_), .val (.int t_), .val (.int (1000 : Int32)), .val (.int (1 : Int32)), .val (.int (1 : Int32))] [])) _
        refine XS.iload X21.here hx rfl (hb hby at_94) rfl ?_
        show Steps p.tables e below (T21.setTop (mkF m 96 #[.val (.int x0), .val (.int x1), .val (.int ((x0 &&& (2147483647 : Int32)) % (5 : Int32))), .val (.int ((x1 &&& (2147483647 : Int32)) % (5 : Int32))), .val (.ref r1), .val (.ref r2), .val (.int s_), .val (.int t_), .val (.int (1000 : Int32)), .val (.int (1 : Int32)), .val (.int (1 : Int32))] [(.int (1 : Int32))])) _
        refine XS.ifNo X21.here hx rfl (hb hby at_96) rfl ((if0 _ _).trans (feq (by decide : ¬ ((1 : Int32) = (0 : Int32)))).1) ?_
        show Steps p.tables e below (T21.setTop (mkF m 99 #[.val (.int x0), .val (.int x1), .val (.int ((x0 &&& (2147483647 : Int32)) % (5 : Int32))), .val (.int ((x1 &&& (2147483647 : Int32)) % (5 : Int32))), .val (.ref r1), .val (.ref r2), .val (.int s_), .val (.int t_), .val (.int (1000 : Int32)), .val (.int (1 : Int32)), .val (.int (1 : Int32))] [])) _
        refine XS.iconst X21.here hx rfl (hb hby at_99) ?_
        show Steps p.tables e below (T21.setTop (mkF m 100 #[.val (.int x0), .val (.int x1), .val (.int ((x0 &&& (2147483647 : Int32)) % (5 : Int32))), .val (.int ((x1 &&& (2147483647 : Int32)) % (5 : Int32))), .val (.ref r1), .val (.ref r2), .val (.int s_), .val (.int t_), .val (.int (1000 : Int32)), .val (.int (1 : Int32)), .val (.int (1 : Int32))] [(.int (1 : Int32))])) _
        refine XS.goto X21.here hx rfl (pc0 := 100) (pc' := 104) rfl (hb hby at_100) (by decide) (by decide) ?_
        show Steps p.tables e below (T21.setTop (mkF m 104 #[.val (.int x0), .val (.int x1), .val (.int ((x0 &&& (2147483647 : Int32)) % (5 : Int32))), .val (.int ((x1 &&& (2147483647 : Int32)) % (5 : Int32))), .val (.ref r1), .val (.ref r2), .val (.int s_), .val (.int t_), .val (.int (1000 : Int32)), .val (.int (1 : Int32)), .val (.int (1 : Int32))] [(.int (1 : Int32))])) _
        exact retN X21 hx (t := .boolean) Bd.returns (by simp) (hb hby at_104) hr
      · show Q_0 Z x0 x1 b0 b1 b2 b3 b4 r1 r2 s_ t_ h0 n0 _ T21.heap _
        rw [e21q]
        exact ⟨rfl, N21⟩
    · skip
      obtain ⟨fs, hr, hrun, hended, hW, hsame⟩ := X21.leave (v := some (.int (1 : Int32))) (fun h => by rw [Bd.returns] at h; cases h)
      refine ⟨_, _, pw26 _ ?_, hrun, hended, _, _, rfl, ?_, ⟨_, rfl⟩, hW, hsame.mono (by decide) (by decide)⟩
      · skip
        refine XS.icmpNo X21.here hx rfl (hb hby at_72) rfl (flt hc27).2.2.1 ?_
        show Steps p.tables e below (T21.setTop (mkF m 75 #[.val (.int x0), .val (.int x1), .val (.int ((x0 &&& (2147483647 : Int32)) % (5 : Int32))), .val (.int ((x1 &&& (2147483647 : Int32)) % (5 : Int32))), .val (.ref r1), .val (.ref r2), .val (.int s_), .val (.int t_), .val (.int (1000 : Int32)), .val (.int (1 : Int32)), .unset] [])) _
        refine XS.iload X21.here hx rfl (hb hby at_75) rfl ?_
        show Steps p.tables e below (T21.setTop (mkF m 77 #[.val (.int x0), .val (.int x1), .val (.int ((x0 &&& (2147483647 : Int32)) % (5 : Int32))), .val (.int ((x1 &&& (2147483647 : Int32)) % (5 : Int32))), .val (.ref r1), .val (.ref r2), .val (.int s_), .val (.int t_), .val (.int (1000 : Int32)), .val (.int (1 : Int32)), .unset] [(.int s_)])) _
        refine XS.iload X21.here hx rfl (hb hby at_77) rfl ?_
        show Steps p.tables e below (T21.setTop (mkF m 79 #[.val (.int x0), .val (.int x1), .val (.int ((x0 &&& (2147483647 : Int32)) % (5 : Int32))), .val (.int ((x1 &&& (2147483647 : Int32)) % (5 : Int32))), .val (.ref r1), .val (.ref r2), .val (.int s_), .val (.int t_), .val (.int (1000 : Int32)), .val (.int (1 : Int32)), .unset] [(.int t_), (.int s_)])) _
        refine XS.icmpNo X21.here hx rfl (hb hby at_79) rfl (flt (hm.resolve_left hc27 : ¬ (t_ < s_))).2.2.1 ?_
        show Steps p.tables e below (T21.setTop (mkF m 82 #[.val (.int x0), .val (.int x1), .val (.int ((x0 &&& (2147483647 : Int32)) % (5 : Int32))), .val (.int ((x1 &&& (2147483647 : Int32)) % (5 : Int32))), .val (.ref r1), .val (.ref r2), .val (.int s_), .val (.int t_), .val (.int (1000 : Int32)), .val (.int (1 : Int32)), .unset] [])) _
        refine XS.iconst X21.here hx rfl (hb hby at_82) ?_
        show Steps p.tables e below (T21.setTop (mkF m 83 #[.val (.int x0), .val (.int x1), .val (.int ((x0 &&& (2147483647 : Int32)) % (5 : Int32))), .val (.int ((x1 &&& (2147483647 : Int32)) % (5 : Int32))), .val (.ref r1), .val (.ref r2), .val (.int s_), .val (.int t_), .val (.int (1000 : Int32)), .val (.int (1 : Int32)), .unset] [(.int (1 : Int32))])) _
        refine XS.goto X21.here hx rfl (pc0 := 83) (pc' := 87) rfl (hb hby at_83) (by decide) (by decide) ?_
        show Steps p.tables e below (T21.setTop (mkF m 87 #[.val (.int x0), .val (.int x1), .val (.int ((x0 &&& (2147483647 : Int32)) % (5 : Int32))), .val (.int ((x1 &&& (2147483647 : Int32)) % (5 : Int32))), .val (.ref r1), .val (.ref r2), .val (.int s_), .val (.int t_), .val (.int (1000 : Int32)), .val (.int (1 : Int32)), .unset] [(.int (1 : Int32))])) _
        refine XS.istore X21.here hx rfl (hb hby at_87) rfl (l' := #[.val (.int x0), .val (.int x1), .val (.int ((x0 &&& (2147483647 : Int32)) % (5 : Int32))), .val (.int ((x1 &&& (2147483647 : Int32)) % (5 : Int32))), .val (.ref r1), .val (.ref r2), .val (.int s_), .val (.int t_), .val (.int (1000 : Int32)), .val (.int (1 : Int32)), .val (.int (1 : Int32))]) rfl ?_
        show Steps p.tables e below (T21.setTop (mkF m 89 #[.val (.int x0), .val (.int x1), .val (.int ((x0 &&& (2147483647 : Int32)) % (5 : Int32))), .val (.int ((x1 &&& (2147483647 : Int32)) % (5 : Int32))), .val (.ref r1), .val (.ref r2), .val (.int s_), .val (.int t_), .val (.int (1000 : Int32)), .val (.int (1 : Int32)), .val (.int (1 : Int32))] [])) _
        refine XS.iload X21.here hx rfl (hb hby at_89) rfl ?_
        show Steps p.tables e below (T21.setTop (mkF m 91 #[.val (.int x0), .val (.int x1), .val (.int ((x0 &&& (2147483647 : Int32)) % (5 : Int32))), .val (.int ((x1 &&& (2147483647 : Int32)) % (5 : Int32))), .val (.ref r1), .val (.ref r2), .val (.int s_), .val (.int t_), .val (.int (1000 : Int32)), .val (.int (1 : Int32)), .val (.int (1 : Int32))] [(.int (1 : Int32))])) _
        refine XS.ifNo X21.here hx rfl (hb hby at_91) rfl ((if0 _ _).trans (feq (by decide : ¬ ((1 : Int32) = (0 : Int32)))).1) ?_
        show Steps p.tables e below (T21.setTop (mkF m 94 #[.val (.int x0), .val (.int x1), .val (.int ((x0 &&& (2147483647 : Int32)) % (5 : Int32))), .val (.int ((x1 &&& (2147483647 : Int32)) % (5 : Int32))), .val (.ref r1), .val (.ref r2), .val (.int s_), .val (.int t_), .val (.int (1000 : Int32)), .val (.int (1 : Int32)), .val (.int (1 : Int32))] [])) _
        refine XS.iload X21.here hx rfl (hb hby at_94) rfl ?_
        show Steps p.tables e below (T21.setTop (mkF m 96 #[.val (.int x0), .val (.int x1), .val (.int ((x0 &&& (2147483647 : Int32)) % (5 : Int32))), .val (.int ((x1 &&& (2147483647 : Int32)) % (5 : Int32))), .val (.ref r1), .val (.ref r2), .val (.int s_), .val (.int t_), .val (.int (1000 : Int32)), .val (.int (1 : Int32)), .val (.int (1 : Int32))] [(.int (1 : Int32))])) _
        refine XS.ifNo X21.here hx rfl (hb hby at_96) rfl ((if0 _ _).trans (feq (by decide : ¬ ((1 : Int32) = (0 : Int32)))).1) ?_
        show Steps p.tables e below (T21.setTop (mkF m 99 #[.val (.int x0), .val (.int x1), .val (.int ((x0 &&& (2147483647 : Int32)) % (5 : Int32))), .val (.int ((x1 &&& (2147483647 : Int32)) % (5 : Int32))), .val (.ref r1), .val (.ref r2), .val (.int s_), .val (.int t_), .val (.int (1000 : Int32)), .val (.int (1 : Int32)), .val (.int (1 : Int32))] [])) _
        refine XS.iconst X21.here hx rfl (hb hby at_99) ?_
        show Steps p.tables e below (T21.setTop (mkF m 100 #[.val (.int x0), .val (.int x1), .val (.int ((x0 &&& (2147483647 : Int32)) % (5 : Int32))), .val (.int ((x1 &&& (2147483647 : Int32)) % (5 : Int32))), .val (.ref r1), .val (.ref r2), .val (.int s_), .val (.int t_), .val (.int (1000 : Int32)), .val (.int (1 : Int32)), .val (.int (1 : Int32))] [(.int (1 : Int32))])) _
        refine XS.goto X21.here hx rfl (pc0 := 100) (pc' := 104) rfl (hb hby at_100) (by decide) (by decide) ?_
        show Steps p.tables e below (T21.setTop (mkF m 104 #[.val (.int x0), .val (.int x1), .val (.int ((x0 &&& (2147483647 : Int32)) % (5 : Int32))), .val (.int ((x1 &&& (2147483647 : Int32)) % (5 : Int32))), .val (.ref r1), .val (.ref r2), .val (.int s_), .val (.int t_), .val (.int (1000 : Int32)), .val (.int (1 : Int32)), .val (.int (1 : Int32))] [(.int (1 : Int32))])) _
        exact retN X21 hx (t := .boolean) Bd.returns (by simp) (hb hby at_104) hr
      · show Q_0 Z x0 x1 b0 b1 b2 b3 b4 r1 r2 s_ t_ h0 n0 _ T21.heap _
        rw [e21q]
        exact ⟨rfl, N21⟩
set_option maxRecDepth 65536 in
set_option maxHeartbeats 40000000 in
theorem comes_1 {Post : Tables → Env → Array Value → State → Outcome → State → Prop} (hpost : ∀ tb e args s v u, (limb_1_1.after args s (.returned v) u = true ∧ limb_1_2.after args s (.returned v) u = true ∧ True) → FrameEnd s (.returned v) u (Jvm.fieldLocs frame_1_writes args s ++ Jvm.arrayLocs frame_1_arrays args s ++ Jvm.staticLocs frame_1_statics s) 0 0 → Post tb e args s (.returned v) u) :
    ArmFor flags0 classFile x code maxLocals ret World_1 tables_1 room_1 Calls_1 rest_1 Pre_1 Post := by
  intro l hfl _ _ p e ha hc hk s m args below hf hA hF happ hP
  obtain ⟨hcalls, hrest, hpre⟩ := hP
  obtain ⟨-, -, -, hnamed, -, -, -, hat⟩ := (Spec.applies_iff hf).mp happ
  obtain ⟨hg, hn⟩ := and_e (Cond.before_iff.mp (show (Jvm.Cond.and given_1 narrow_1).before args s = true from hpre))
  obtain ⟨g28, g29⟩ := and_e hg
  obtain ⟨g30, g31⟩ := and_e g29
  obtain ⟨w0, w1, rfl⟩ : ∃ w0 w1 : Value, args = #[w0, w1] := by
    have hs : args.size = 2 := by simpa [Cond.value, given_1] using g28
    obtain ⟨L⟩ := args
    match L, hs with
    | [w0, w1], _ => exact ⟨w0, w1, rfl⟩
  have hw := fun d (hd : d ∈ tables_1) => atoms_spec (ws := Jvm.Cond.code x code maxLocals ret :: tables_1) hat d (List.mem_cons_of_mem _ hd)
  have hfit : Fit s := fun {y c} hc i hi => by
    obtain ⟨ha, rfl⟩ := Array.getElem?_eq_some_iff.mp hc
    have q := List.all_eq_true.mp ((Array.all_eq_true_iff_forall_mem.mp hF) _ (Array.getElem_mem ha)) i (List.mem_range.mpr hi)
    simpa [Array.getElem?_eq_getElem hi] using q
  obtain ⟨x0, ei0⟩ := is_v g30
  obtain rfl : w0 = (.int x0) := Option.some.inj ei0
  obtain ⟨x1, ei1⟩ := is_v g31
  obtain rfl : w1 = (.int x1) := Option.some.inj ei1
  obtain ⟨g32, g33⟩ := and_e hn
  obtain ⟨g34, g35⟩ := and_e g33
  obtain ⟨g36, g37⟩ := and_e g35
  obtain ⟨g38, g39⟩ := and_e g37
  obtain ⟨g40, g41⟩ := and_e g39
  obtain ⟨g42, g43⟩ := and_e g41
  obtain ⟨g44, g45⟩ := and_e g43
  obtain ⟨g46, g47⟩ := and_e g45
  obtain ⟨g48, g49⟩ := and_e g47
  obtain ⟨a_V3_5, ev_a_V3_5⟩ := exa_v g32
  have E_a_V3_5 : Exa s s.heap a_V3_5 "com/example/brisk_tune/brisktune/music/Model" := Exa.start ev_a_V3_5 g32
  have S_a_V3_5 : Sta s s.heap "com/example/brisk_tune/brisktune/music/Model" "V3_5" "Lcom/example/brisk_tune/brisktune/music/Model;" (.ref a_V3_5) := Sta.start ev_a_V3_5 (Or.inr ⟨(hw _ (List.mem_of_getElem? (i := 6) rfl)), (hw _ (List.mem_of_getElem? (i := 7) rfl))⟩)
  obtain ⟨a_V4_5PLUS, ev_a_V4_5PLUS⟩ := exa_v g34
  have E_a_V4_5PLUS : Exa s s.heap a_V4_5PLUS "com/example/brisk_tune/brisktune/music/Model" := Exa.start ev_a_V4_5PLUS g34
  have S_a_V4_5PLUS : Sta s s.heap "com/example/brisk_tune/brisktune/music/Model" "V4_5PLUS" "Lcom/example/brisk_tune/brisktune/music/Model;" (.ref a_V4_5PLUS) := Sta.start ev_a_V4_5PLUS (Or.inr ⟨(hw _ (List.mem_of_getElem? (i := 6) rfl)), (hw _ (List.mem_of_getElem? (i := 9) rfl))⟩)
  obtain ⟨a_V5, ev_a_V5⟩ := exa_v g40
  have E_a_V5 : Exa s s.heap a_V5 "com/example/brisk_tune/brisktune/music/Model" := Exa.start ev_a_V5 g40
  have S_a_V5 : Sta s s.heap "com/example/brisk_tune/brisktune/music/Model" "V5" "Lcom/example/brisk_tune/brisktune/music/Model;" (.ref a_V5) := Sta.start ev_a_V5 (Or.inr ⟨(hw _ (List.mem_of_getElem? (i := 6) rfl)), (hw _ (List.mem_of_getElem? (i := 25) rfl))⟩)
  obtain ⟨a_V4, ev_a_V4⟩ := exa_v g42
  have E_a_V4 : Exa s s.heap a_V4 "com/example/brisk_tune/brisktune/music/Model" := Exa.start ev_a_V4 g42
  have S_a_V4 : Sta s s.heap "com/example/brisk_tune/brisktune/music/Model" "V4" "Lcom/example/brisk_tune/brisktune/music/Model;" (.ref a_V4) := Sta.start ev_a_V4 (Or.inr ⟨(hw _ (List.mem_of_getElem? (i := 6) rfl)), (hw _ (List.mem_of_getElem? (i := 27) rfl))⟩)
  obtain ⟨a_V4_5, ev_a_V4_5⟩ := exa_v g48
  have E_a_V4_5 : Exa s s.heap a_V4_5 "com/example/brisk_tune/brisktune/music/Model" := Exa.start ev_a_V4_5 g48
  have S_a_V4_5 : Sta s s.heap "com/example/brisk_tune/brisktune/music/Model" "V4_5" "Lcom/example/brisk_tune/brisktune/music/Model;" (.ref a_V4_5) := Sta.start ev_a_V4_5 (Or.inr ⟨(hw _ (List.mem_of_getElem? (i := 6) rfl)), (hw _ (List.mem_of_getElem? (i := 29) rfl))⟩)
  have O_a_V3_5 : Fld s s.heap a_V3_5 "java/lang/Enum" "ordinal" "I" (.int (0 : Int32)) := own_fldI ev_a_V3_5 g36
  have O_a_V4_5PLUS : Fld s s.heap a_V4_5PLUS "java/lang/Enum" "ordinal" "I" (.int (3 : Int32)) := own_fldI ev_a_V4_5PLUS g38
  have O_a_V5 : Fld s s.heap a_V5 "java/lang/Enum" "ordinal" "I" (.int (4 : Int32)) := own_fldI ev_a_V5 g44
  have O_a_V4 : Fld s s.heap a_V4 "java/lang/Enum" "ordinal" "I" (.int (1 : Int32)) := own_fldI ev_a_V4 g46
  have O_a_V4_5 : Fld s s.heap a_V4_5 "java/lang/Enum" "ordinal" "I" (.int (2 : Int32)) := own_fldI ev_a_V4_5 g49
  obtain ⟨r1, E_r1, F_r1, hp1⟩ : ∃ (r : Addr), Exa s s.heap r "com/example/brisk_tune/brisktune/music/Model" ∧ Fld s s.heap r "java/lang/Enum" "ordinal" "I" (.int ((x0 &&& 2147483647) % 5)) ∧ own_pick ((x0 &&& 2147483647) % 5) a_V3_5 a_V4 a_V4_5 a_V4_5PLUS a_V5 = r := by
    rcases own_k x0 with hk | hk | hk | hk | hk <;> rw [hk]
    · exact ⟨a_V3_5, E_a_V3_5, O_a_V3_5, by simp [own_pick]⟩
    · exact ⟨a_V4, E_a_V4, O_a_V4, by simp [own_pick]⟩
    · exact ⟨a_V4_5, E_a_V4_5, O_a_V4_5, by simp [own_pick]⟩
    · exact ⟨a_V4_5PLUS, E_a_V4_5PLUS, O_a_V4_5PLUS, by simp [own_pick]⟩
    · exact ⟨a_V5, E_a_V5, O_a_V5, by simp [own_pick]⟩
  obtain ⟨r2, E_r2, F_r2, hp2⟩ : ∃ (r : Addr), Exa s s.heap r "com/example/brisk_tune/brisktune/music/Model" ∧ Fld s s.heap r "java/lang/Enum" "ordinal" "I" (.int ((x1 &&& 2147483647) % 5)) ∧ own_pick ((x1 &&& 2147483647) % 5) a_V3_5 a_V4 a_V4_5 a_V4_5PLUS a_V5 = r := by
    rcases own_k x1 with hk | hk | hk | hk | hk <;> rw [hk]
    · exact ⟨a_V3_5, E_a_V3_5, O_a_V3_5, by simp [own_pick]⟩
    · exact ⟨a_V4, E_a_V4, O_a_V4, by simp [own_pick]⟩
    · exact ⟨a_V4_5, E_a_V4_5, O_a_V4_5, by simp [own_pick]⟩
    · exact ⟨a_V4_5PLUS, E_a_V4_5PLUS, O_a_V4_5PLUS, by simp [own_pick]⟩
    · exact ⟨a_V5, E_a_V5, O_a_V5, by simp [own_pick]⟩
  have hm : (x1 &&& 2147483647) % 5 < (x0 &&& 2147483647) % 5 ∨ ¬ (own_ms ((x1 &&& 2147483647) % 5) < own_ms ((x0 &&& 2147483647) % 5)) := by
    rcases own_k x0 with hk | hk | hk | hk | hk <;> rcases own_k x1 with hj | hj | hj | hj | hj <;> rw [hk, hj] <;> decide
  obtain ⟨n, o, h1, h2, h3, _, L, rfl, ⟨rfl, N⟩, hq⟩ := rm_0 l s _ hw tables_1 x0 x1 a_V3_5 a_V4 a_V4_5 a_V4_5PLUS a_V5 r1 r2 _ _ s.heap s.heap.size (Nat.le_refl _) S_a_V3_5 S_a_V4 S_a_V4_5 S_a_V4_5PLUS S_a_V5 E_r1 E_r2 F_r1 F_r2 hp1 hp2 (own_k x0) (own_k x1) rfl rfl hm p e ha hc hk s m _ below hf ((Spec.applies_iff_loose hf).mp happ).1 ⟨rfl, State.Warmed39.refl s, rfl⟩ trivial
  refine ⟨n, _, h1, h2, h3, hpost _ _ _ _ _ _ ⟨Cond.after_iff.mpr rfl, Cond.after_iff.mpr (eq_i res_at (Term.int_eval (1)) rfl), trivial⟩ ⟨hq.1, hq.2.1, (hq.2.2.sift fun y hy => Or.inr (N y hy)).mono (by decide) (by decide)⟩⟩
theorem main_1_1 : Claimed_1_1 := comes_1 fun _ _ _ _ _ _ h hF => ⟨h.1, hF⟩
theorem main_1_2 : Claimed_1_2 := comes_1 fun _ _ _ _ _ _ h hF => ⟨h.2.1, hF⟩
end Jvm.Pilot.@@N@@
namespace Jvm.Pilot.@@N@@
open Jvm Jvm.ClassFile Sem Op Lib Jvm.Free Jvm.Stand Jvm.Pilot.@@N@@.Jvm.D
/-! MADE BY PROGRAM (witnessworld.py) out of the Statement's table words and the real class files: 12 classes; the members and pool entries that the words name. The judged class is class 1, her method 2. -/
namespace start1
open Jvm.ClassFile
def u (s : String) : CpInfo := .utf8 (stringToUtf16 s)
/-- a pool by its gaps: so many unusable entries, then the entry; so many at the end -/
def gap : Nat → List CpInfo → List CpInfo
  | 0, r => r
  | n + 1, r => .unusable :: gap n r
def poolList (es : List (Nat × CpInfo)) (last : Nat) : List CpInfo := es.foldr (fun e r => gap e.1 (e.2 :: r)) (gap last [])
def pool (es : List (Nat × CpInfo)) (last : Nat) : Array CpInfo := ⟨poolList es last⟩
def fileOf (pool : Array CpInfo) (this : Nat) (attrs : Array Attribute := #[]) (ms : Array MethodInfo := #[]) (fl : Nat := 33) (sup : Nat := 0) (ifs : Array Nat := #[]) (fds : Array FieldInfo := #[]) : ClassFile where
  minorVersion := 0
  majorVersion := 65
  constantPool := pool
  accessFlags := fl
  thisClass := this
  superClass := sup
  interfaces := ifs
  fields := fds
  methods := ms
  attributes := attrs
def plain (name : String) (sup : Option ClassId) : Class where
  name := name
  kind := .ordinary
  loader := none
  accessFlags := 33
  super := sup
  interfaces := #[]
  cf := none
  fields := #[]
  methods := #[]
  instanceTypes := #[]
  staticTypes := #[]
  resolved := #[]
  callSites := []
  init := .initialized
  statics := none
  mirror := none

def pool0 : Array CpInfo := pool [(5, u "<init>"), (0, u "()V"), (1, .class_ 10), (1, u "java/lang/Object")] 113

def k0m0 : Method := { name := "<init>", desc := "()V", sig := { parameters := [], returnType := none }, accessFlags := 1, code := none }
/-- java/lang/Object -/
def k0 : Class := { plain "java/lang/Object" none with
  accessFlags := 33
  interfaces := #[]
  cf := some (fileOf pool0 8 #[] #[{ accessFlags := 1, nameIndex := 5, descriptorIndex := 6, attributes := #[] }] 33 0 #[] #[])
  fields := #[]
  methods := #[k0m0]
  instanceTypes := #[]
  staticTypes := #[]
  resolved := Array.replicate 124 none
  statics := none }

def pool1 : Array CpInfo := pool [(2, .class_ 4), (1, u "java/lang/Object"), (0, u "<init>"), (0, u "()V"), (0, .fieldref 8 9), (0, .class_ 10), (0, .nameAndType 11 12), (0, u "com/example/brisk_tune/brisktune/music/Model"), (0, u "V3_5"), (0, u "Lcom/example/brisk_tune/brisktune/music/Model;"), (0, .fieldref 8 14), (0, .nameAndType 15 12), (0, u "V4"), (0, .fieldref 8 17), (0, .nameAndType 18 12), (0, u "V4_5"), (0, .fieldref 8 20), (0, .nameAndType 21 12), (0, u "V4_5PLUS"), (0, .fieldref 8 23), (0, .nameAndType 24 12), (0, u "V5"), (0, .integer 2147483647), (0, .methodref 27 28), (0, .class_ 29), (0, .nameAndType 30 31), (0, u "com/example/brisk_tune/brisktune/music/ModelMaxStylePinLaw"), (0, u "pick"), (0, u "(I)Lcom/example/brisk_tune/brisktune/music/Model;"), (0, .methodref 8 33), (0, .nameAndType 34 35), (0, u "maxStyle"), (0, u "()I"), (3, u "law"), (0, u "(II)Z")] 2

def k1m0 : Method := { name := "<init>", desc := "()V", sig := { parameters := [], returnType := none }, accessFlags := 1, code := none }
def k1c1 : Code := { maxStack := 2, maxLocals := 1, code := method_2_code, exceptionTable := #[], attributes := #[] }
def k1m1 : Method := { name := "pick", desc := "(I)Lcom/example/brisk_tune/brisktune/music/Model;", sig := { parameters := [.int], returnType := some (.object "com/example/brisk_tune/brisktune/music/Model") }, accessFlags := 10, code := some k1c1 }
def k1c2 : Code := { maxStack := 2, maxLocals := 11, code := code, exceptionTable := #[], attributes := #[] }
def k1m2 : Method := { name := "law", desc := "(II)Z", sig := { parameters := [.int, .int], returnType := some .boolean }, accessFlags := 9, code := some k1c2 }
/-- com/example/brisk_tune/brisktune/music/ModelMaxStylePinLaw -/
def k1 : Class := { plain "com/example/brisk_tune/brisktune/music/ModelMaxStylePinLaw" (some 0) with
  accessFlags := 49
  interfaces := #[]
  cf := some (fileOf pool1 27 #[] #[{ accessFlags := 1, nameIndex := 5, descriptorIndex := 6, attributes := #[] }, { accessFlags := 10, nameIndex := 30, descriptorIndex := 31, attributes := #[] }, { accessFlags := 9, nameIndex := 39, descriptorIndex := 40, attributes := #[] }] 49 2 #[] #[])
  fields := #[]
  methods := #[k1m0, k1m1, k1m2]
  instanceTypes := #[]
  staticTypes := #[]
  resolved := Array.replicate 43 none
  statics := none }

def pool2 : Array CpInfo := pool [(1, .class_ 2), (0, u "java/lang/constant/Constable"), (0, .class_ 4), (0, u "java/lang/Object")] 6

/-- java/lang/constant/Constable -/
def k2 : Class := { plain "java/lang/constant/Constable" (some 0) with
  accessFlags := 1537
  interfaces := #[]
  cf := some (fileOf pool2 1 #[] #[] 1537 3 #[] #[])
  fields := #[]
  methods := #[]
  instanceTypes := #[]
  staticTypes := #[]
  resolved := Array.replicate 11 none
  statics := none }

def pool3 : Array CpInfo := pool [(1, .class_ 2), (0, u "java/lang/Comparable"), (0, .class_ 4), (0, u "java/lang/Object")] 7

/-- java/lang/Comparable -/
def k3 : Class := { plain "java/lang/Comparable" (some 0) with
  accessFlags := 1537
  interfaces := #[]
  cf := some (fileOf pool3 1 #[] #[] 1537 3 #[] #[])
  fields := #[]
  methods := #[]
  instanceTypes := #[]
  staticTypes := #[]
  resolved := Array.replicate 12 none
  statics := none }

def pool4 : Array CpInfo := pool [(1, .class_ 2), (0, u "java/io/Serializable"), (0, .class_ 4), (0, u "java/lang/Object")] 2

/-- java/io/Serializable -/
def k4 : Class := { plain "java/io/Serializable" (some 0) with
  accessFlags := 1537
  interfaces := #[]
  cf := some (fileOf pool4 1 #[] #[] 1537 3 #[] #[])
  fields := #[]
  methods := #[]
  instanceTypes := #[]
  staticTypes := #[]
  resolved := Array.replicate 7 none
  statics := none }

def pool5 : Array CpInfo := pool [(2, .class_ 4), (1, u "java/lang/Enum"), (0, u "name"), (0, u "Ljava/lang/String;"), (0, .fieldref 2 8), (0, .nameAndType 9 10), (0, u "ordinal"), (0, u "I"), (1, .class_ 14), (1, u "java/lang/Object"), (4, u "hash"), (86, .class_ 108), (1, u "java/lang/Enum$EnumDesc"), (2, .class_ 112), (0, u "java/lang/constant/Constable"), (0, .class_ 114), (0, u "java/lang/Comparable"), (0, .class_ 116), (0, u "java/io/Serializable"), (9, u "()I")] 77

def k5c0 : Code := { maxStack := 1, maxLocals := 1, code := jdk_37_method_2_code, exceptionTable := #[], attributes := #[] }
def k5m0 : Method := { name := "ordinal", desc := "()I", sig := { parameters := [], returnType := some .int }, accessFlags := 17, code := some k5c0 }
/-- java/lang/Enum -/
def k5 : Class := { plain "java/lang/Enum" (some 0) with
  accessFlags := 1057
  interfaces := #[2, 3, 4]
  cf := some (fileOf pool5 2 #[.nestMembers #[106]] #[{ accessFlags := 17, nameIndex := 9, descriptorIndex := 126, attributes := #[] }] 1057 12 #[111, 113, 115] #[{ accessFlags := 18, nameIndex := 5, descriptorIndex := 6, attributes := #[] }, { accessFlags := 18, nameIndex := 9, descriptorIndex := 10, attributes := #[] }, { accessFlags := 2, nameIndex := 19, descriptorIndex := 10, attributes := #[] }])
  fields := #[{ name := "name", type := (.object "java/lang/String"), accessFlags := 18, slot := 0, constantValue := 0 }, { name := "ordinal", type := .int, accessFlags := 18, slot := 1, constantValue := 0 }, { name := "hash", type := .int, accessFlags := 2, slot := 2, constantValue := 0 }]
  methods := #[k5m0]
  instanceTypes := #[(.object "java/lang/String"), .int, .int]
  staticTypes := #[]
  resolved := Array.replicate 204 none
  statics := none }

def pool6 : Array CpInfo := pool [(1, .class_ 2), (0, u "com/example/brisk_tune/brisktune/music/Model"), (2, u "V3_5"), (0, u "Lcom/example/brisk_tune/brisktune/music/Model;"), (2, u "V4"), (2, u "V4_5"), (2, u "V4_5PLUS"), (2, u "V5"), (2, u "$VALUES"), (0, u "[Lcom/example/brisk_tune/brisktune/music/Model;"), (6, .class_ 31), (1, u "java/lang/Enum"), (42, .methodref 1 75), (0, .nameAndType 76 77), (0, u "ordinal"), (0, u "()I"), (37, u "maxStyle")] 33

def k6c0 : Code := { maxStack := 4, maxLocals := 1, code := prog_17_method_7_code, exceptionTable := #[], attributes := #[] }
def k6m0 : Method := { name := "maxStyle", desc := "()I", sig := { parameters := [], returnType := some .int }, accessFlags := 1, code := some k6c0 }
/-- com/example/brisk_tune/brisktune/music/Model -/
def k6 : Class := { plain "com/example/brisk_tune/brisktune/music/Model" (some 5) with
  accessFlags := 16433
  interfaces := #[]
  cf := some (fileOf pool6 1 #[] #[{ accessFlags := 1, nameIndex := 115, descriptorIndex := 77, attributes := #[] }] 16433 29 #[] #[{ accessFlags := 16409, nameIndex := 5, descriptorIndex := 6, attributes := #[] }, { accessFlags := 16409, nameIndex := 9, descriptorIndex := 6, attributes := #[] }, { accessFlags := 16409, nameIndex := 12, descriptorIndex := 6, attributes := #[] }, { accessFlags := 16409, nameIndex := 15, descriptorIndex := 6, attributes := #[] }, { accessFlags := 16409, nameIndex := 18, descriptorIndex := 6, attributes := #[] }, { accessFlags := 4122, nameIndex := 21, descriptorIndex := 22, attributes := #[] }])
  fields := #[{ name := "V3_5", type := (.object "com/example/brisk_tune/brisktune/music/Model"), accessFlags := 16409, slot := 0, constantValue := 0 }, { name := "V4", type := (.object "com/example/brisk_tune/brisktune/music/Model"), accessFlags := 16409, slot := 1, constantValue := 0 }, { name := "V4_5", type := (.object "com/example/brisk_tune/brisktune/music/Model"), accessFlags := 16409, slot := 2, constantValue := 0 }, { name := "V4_5PLUS", type := (.object "com/example/brisk_tune/brisktune/music/Model"), accessFlags := 16409, slot := 3, constantValue := 0 }, { name := "V5", type := (.object "com/example/brisk_tune/brisktune/music/Model"), accessFlags := 16409, slot := 4, constantValue := 0 }, { name := "$VALUES", type := (.array (.object "com/example/brisk_tune/brisktune/music/Model")), accessFlags := 4122, slot := 5, constantValue := 0 }]
  methods := #[k6m0]
  instanceTypes := #[(.object "java/lang/String"), .int, .int]
  staticTypes := #[(.object "com/example/brisk_tune/brisktune/music/Model"), (.object "com/example/brisk_tune/brisktune/music/Model"), (.object "com/example/brisk_tune/brisktune/music/Model"), (.object "com/example/brisk_tune/brisktune/music/Model"), (.object "com/example/brisk_tune/brisktune/music/Model"), (.array (.object "com/example/brisk_tune/brisktune/music/Model"))]
  resolved := Array.replicate 149 none
  statics := some 0 }

def pool7 : Array CpInfo := pool [(1, u "java/lang/Cloneable"), (0, .class_ 1), (0, u "java/lang/Object"), (0, .class_ 3)] 3

/-- java/lang/Cloneable -/
def k7 : Class := { plain "java/lang/Cloneable" (some 0) with
  accessFlags := 1537
  interfaces := #[]
  cf := some (fileOf pool7 2 #[] #[] 1537 4 #[] #[])
  fields := #[]
  methods := #[]
  instanceTypes := #[]
  staticTypes := #[]
  resolved := Array.replicate 8 none
  statics := none }

/-- the primitive byte -/
def k8 : Class := { plain "byte" none with kind := .primitive 'B', accessFlags := 0x411 }
/-- [B -/
def k9 : Class := { plain "[B" (some 0) with kind := .array 8 .byte, interfaces := #[7, 4], accessFlags := 1041 }

/-- the primitive int -/
def k10 : Class := { plain "int" none with kind := .primitive 'I', accessFlags := 0x411 }
/-- [I -/
def k11 : Class := { plain "[I" (some 0) with kind := .array 10 .int, interfaces := #[7, 4], accessFlags := 1041 }

def heap : Heap := #[{ cls := 6, slots := #[.ref 1, .ref 4, .ref 5, .ref 2, .ref 3, .null], vm := .statics 6 },
  { cls := 6, slots := #[.null, .int 0, .int 0], vm := .none },
  { cls := 6, slots := #[.null, .int 3, .int 0], vm := .none },
  { cls := 6, slots := #[.null, .int 4, .int 0], vm := .none },
  { cls := 6, slots := #[.null, .int 1, .int 0], vm := .none },
  { cls := 6, slots := #[.null, .int 2, .int 0], vm := .none }]
def classes : Array Class := #[k0, k1, k2, k3, k4, k5, k6, k7, k8, k9, k10, k11]
def interned : List (Array UInt16 × Addr) := []
def slotsUsed : Nat := 21
def theMethod : MethodId := ⟨1, 2⟩
def args0 : Array Value := #[.int 5, .int 5]
def aboutOver (below : List Frame) : State where
  vm := { classes := classes, interned := interned.toArray }
  heap := heap
  slotsUsed := slotsUsed
  threads := #[{ frames := .invoking theMethod args0 :: below }]
def below0 : List Frame := [.native { method := ⟨0, 0⟩, args := #[] }]
def about1 : State := aboutOver below0
def p0 : Program := .bare "" "" ""
def e0 : Env := launch0.env 0 0 0
theorem w_frames : about1.frames = Frame.invoking theMethod args0 :: below0 := rfl
set_option maxRecDepth 65536 in
theorem w_args : argsFit about1.vm theMethod args0 = true := by decide +kernel
set_option maxRecDepth 65536 in
theorem w_heap : heapFits about1 = true := by decide +kernel
set_option maxRecDepth 65536 in
theorem w_runnable : about1.curStatus? = some .runnable := by decide +kernel
set_option maxRecDepth 65536 in
theorem w_alone : about1.alone = true := by decide +kernel
set_option maxRecDepth 65536 in
theorem w_named : about1.methodNamed? x = some theMethod := by decide +kernel
set_option maxRecDepth 65536 in
theorem w_hears : about1.hears theMethod below0 = true := by decide +kernel
set_option maxRecDepth 65536 in
theorem w_ripe : about1.ripe theMethod args0 below0 = true := by decide +kernel
theorem w_running : about1.status = .running := rfl
set_option maxRecDepth 65536 in
theorem w_room : about1.hasRoom e0.platform room_1 = true :=
  launch0.hasRoom_least _ room_1 (by decide +kernel) (by decide +kernel) (by decide +kernel) (by decide +kernel) (by decide +kernel) (by decide +kernel)
theorem allAtoms_all (ts : List Jvm.Cond) (a : Array Jvm.Value) (st : Jvm.State) : (allAtoms ts).before a st = ts.all (fun c => c.before a st) := by
  induction ts with
  | nil => rfl
  | cons c t ih =>
    show (Jvm.Cond.and c (allAtoms t)).before a st = _
    rw [Jvm.Cond.before_and, ih, List.all_cons]
def words1 : List Jvm.Cond := Jvm.Cond.code x code maxLocals ret :: tables_1
/-- a 'code' word, met by the world's own term for the bytes: nothing is compared byte by byte -/
theorem code_word {y : MethodName} {bytes : ByteArray} {mx : Nat} {rt : Option FieldType} {a : Array Value} {s : State} {m : MethodId} {meth : Method} {c : Code} (h1 : s.methodNamed? y = some m) (h2 : s.vm.method? m = some meth) (h3 : meth.code = some c) (h4 : c.code = bytes)
    (h5 : (c.maxLocals == mx && c.exceptionTable.isEmpty && decide (c.maxStack ≤ mostOperands) && decide (meth.sig.returnType = rt) && !meth.locks && decide (parseMethodDescriptor y.desc = some meth.sig)) = true) : (Jvm.Cond.code y bytes mx rt).before a s = true := by
  simp only [Bool.and_eq_true, beq_iff_eq, Bool.not_eq_true', decide_eq_true_eq] at h5
  obtain ⟨⟨⟨⟨⟨g1, g2⟩, g3⟩, g4⟩, g5⟩, g6⟩ := h5
  simp [Cond.before, Cond.holds, Cond.value, h1, h2, h3, h4, g1, g2, g3, g4, g5, g6]
def isCode : Jvm.Cond → Bool
  | .code _ _ _ _ => true
  | _ => false
theorem all_split {L : List Jvm.Cond} {P : Jvm.Cond → Bool} (h1 : L.all (fun c => isCode c || P c) = true) (h2 : ∀ c ∈ L.filter isCode, P c = true) : L.all P = true := by
  refine List.all_eq_true.mpr fun c hc => ?_
  have h := List.all_eq_true.mp h1 c hc
  rcases Bool.eq_false_or_eq_true (isCode c) with hi | hi
  · exact h2 c (List.mem_filter.mpr ⟨hc, hi⟩)
  · simpa [hi] using h
set_option maxRecDepth 65536 in
theorem w_c0 : (Jvm.Cond.code x code maxLocals ret).before args0 about1 = true := code_word (m := ⟨1, 2⟩) (meth := k1m2) (c := k1c2) (by decide +kernel) rfl rfl rfl (by decide +kernel)
set_option maxRecDepth 65536 in
theorem w_c1 : (Jvm.Cond.code ({ cls := "com/example/brisk_tune/brisktune/music/ModelMaxStylePinLaw", name := "pick", desc := "(I)Lcom/example/brisk_tune/brisktune/music/Model;" } : Jvm.MethodName) method_2_code (1 : Nat) (Option.some (Jvm.ClassFile.FieldType.object "com/example/brisk_tune/brisktune/music/Model"))).before args0 about1 = true := code_word (m := ⟨1, 1⟩) (meth := k1m1) (c := k1c1) (by decide +kernel) rfl rfl rfl (by decide +kernel)
set_option maxRecDepth 65536 in
theorem w_c2 : (Jvm.Cond.code ({ cls := "com/example/brisk_tune/brisktune/music/Model", name := "maxStyle", desc := "()I" } : Jvm.MethodName) prog_17_method_7_code (1 : Nat) (Option.some Jvm.ClassFile.FieldType.int)).before args0 about1 = true := code_word (m := ⟨6, 0⟩) (meth := k6m0) (c := k6c0) (by decide +kernel) rfl rfl rfl (by decide +kernel)
set_option maxRecDepth 65536 in
theorem w_c3 : (Jvm.Cond.code ({ cls := "java/lang/Enum", name := "ordinal", desc := "()I" } : Jvm.MethodName) jdk_37_method_2_code (1 : Nat) (Option.some Jvm.ClassFile.FieldType.int)).before args0 about1 = true := code_word (m := ⟨5, 0⟩) (meth := k5m0) (c := k5c0) (by decide +kernel) rfl rfl rfl (by decide +kernel)
def codes1 : List Jvm.Cond := [Jvm.Cond.code x code maxLocals ret, Jvm.Cond.code ({ cls := "com/example/brisk_tune/brisktune/music/ModelMaxStylePinLaw", name := "pick", desc := "(I)Lcom/example/brisk_tune/brisktune/music/Model;" } : Jvm.MethodName) method_2_code (1 : Nat) (Option.some (Jvm.ClassFile.FieldType.object "com/example/brisk_tune/brisktune/music/Model")), Jvm.Cond.code ({ cls := "com/example/brisk_tune/brisktune/music/Model", name := "maxStyle", desc := "()I" } : Jvm.MethodName) prog_17_method_7_code (1 : Nat) (Option.some Jvm.ClassFile.FieldType.int), Jvm.Cond.code ({ cls := "java/lang/Enum", name := "ordinal", desc := "()I" } : Jvm.MethodName) jdk_37_method_2_code (1 : Nat) (Option.some Jvm.ClassFile.FieldType.int)]
set_option maxRecDepth 65536 in
theorem codes_eq : words1.filter isCode = codes1 := rfl
theorem w_codes : ∀ c ∈ words1.filter isCode, c.before args0 about1 = true := by
  rw [codes_eq]
  intro c hc
  simp only [codes1, List.mem_cons, List.not_mem_nil, or_false] at hc
  rcases hc with rfl | rfl | rfl | rfl
  · exact w_c0
  · exact w_c1
  · exact w_c2
  · exact w_c3
set_option maxRecDepth 65536 in
theorem w_t1 : (words1.take 24).all (fun c => isCode c || c.before args0 about1) = true := by decide +kernel
set_option maxRecDepth 65536 in
theorem w_t2 : (words1.drop 24).all (fun c => isCode c || c.before args0 about1) = true := by decide +kernel
theorem w_tables : (allAtoms (Jvm.Cond.code x code maxLocals ret :: tables_1)).before args0 about1 = true := by
  rw [allAtoms_all]
  show words1.all (fun c => c.before args0 about1) = true
  refine all_split ?_ w_codes
  rw [← List.take_append_drop 24 words1, List.all_append, w_t1, w_t2]
  rfl
set_option maxRecDepth 65536 in
theorem w_case : (Jvm.Cond.and given_1 narrow_1).before args0 about1 = true := by decide +kernel
theorem w_applies : (headSpec (Jvm.Cond.code x code maxLocals ret :: tables_1) room_1).applies x e0.platform about1 = true :=
  (Spec.applies_iff w_frames).mpr ⟨w_running, w_runnable, w_alone, w_named, w_hears, w_ripe, w_room, w_tables⟩
theorem atStart : AtStart classFile x code maxLocals ret World_1 tables_1 room_1 Calls_1 rest_1 Pre_1 launch0 p0 e0 about1 theMethod args0 below0 :=
  ⟨lists_1, trivial, launch0.admits_env _ _ _, launch0.least_env, fairChoices_fair.cas, fairChoices_fair.clock, w_frames, w_args, w_heap, w_applies, trivial, trivial, w_case⟩
end start1
theorem witness_1 : WitnessClaimed_1 := ⟨start1.p0, start1.e0, start1.about1, start1.theMethod, start1.args0, start1.below0, start1.atStart⟩
end Jvm.Pilot.@@N@@
