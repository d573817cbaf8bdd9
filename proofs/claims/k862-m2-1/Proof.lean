import JvmDerived
import JvmDerived.Pilot.@@N@@Statement
import JvmDerived.Pilot.@@N@@Code
set_option linter.unusedVariables false
set_option linter.unusedSimpArgs false
namespace Jvm.RoadKit
open Sem ClassFile Op Lib Jvm.Stand Jvm.Free Jvm.LawKit
section New
variable {p : Program} {l : Launch} {e : Env} {R : Room} {s : State} {m : MethodId} {args : Array Value} {below : List Frame} {meth : Method} {c : Code} {T : State} {locs : List Loc} {cells slots : Nat}
theorem retI (X : Stand p l e R s m args below meth c T locs cells slots) (hx : p.tables.exec = Jvm.exec) {pc : Nat} {Ls : Array Slot} {z : Int32} {rest : List Value} (hret : meth.sig.returnType = some .int) (hd : decode c.code pc = .ok (.ireturn, 1)) {fs : List Frame}
    (hl : ∀ (f : JFrame) (acts : List Action), f.method = m → f.locked = none → f.entered = [] → (doReturn e (T.setTop f) acts (some (.int z))).1 = T.setFrames fs) : Steps p.tables e below (T.setTop (mkF m pc Ls (.int z :: rest))) (T.setFrames fs) := by
  have hm' : T.vm.method? m = some meth := X.method'
  have hn : narrow .int (.int z) = .int z := rfl
  show Steps p.tables e below (T.setTop { method := m, pc := pc, locals := Ls, stack := _ :: rest, locked := none }) _
  jvm_step X.here [X.here.top, hx, hd, hm', hret, hn]
  first | (intro acts; rw [hl _ acts rfl rfl rfl]) | rw [hl _ _ rfl rfl rfl]
  exact Steps.refl _
end New
variable {Z : State} {h h' : Heap} {C n d : String} {v w : Value} {ws : List Addr}
theorem own_staKeep (F : Sta Z h C n d v) (K : Keep h h' ws) (q : ∀ x ∈ ws, ∀ c : Cell, h[x]? = some c → c.vm.isStatics = false) : Sta Z h' C n d v := by
  obtain ⟨cf, i, k, f, st, cell, h1, h2, h3, h4, h5, h6, h7⟩ := F
  refine ⟨cf, i, k, f, st, cell, h1, h2, h3, h4, K.2.1 _ _ h5 (fun r => ?_), h6, h7⟩
  rw [q _ r _ h5] at h6; cases h6
theorem own_staNew {n0 : Nat} (F : Sta Z h C n d v) (K : Keep h h' ws) (hn : ∀ x ∈ ws, n0 ≤ x) (hs : ∀ (x : Addr) (c : Cell), h[x]? = some c → c.vm.isStatics = true → x < n0) : Sta Z h' C n d v := by
  obtain ⟨cf, i, k, f, st, cell, h1, h2, h3, h4, h5, h6, h7⟩ := F
  exact ⟨cf, i, k, f, st, cell, h1, h2, h3, h4, K.2.1 _ _ h5 (fun r => absurd (hs _ _ h5 h6) (Nat.not_lt.mpr (hn _ r))), h6, h7⟩
theorem own_fldI {args : Array Value} {s : State} {t : Term} {a : Addr} {C n d : String} {k : Int32} (ht : t.eval args s none [] s = some (.ref a)) (h : (Cond.eq (.field t C n d) (.int k)).value args s none s [] = some true) : Fld s s.heap a C n d (.int k) := Fld.start ((fld_at ht).symm.trans (eqv_i rfl h))
theorem own_fldR {args : Array Value} {s : State} {t u : Term} {a b : Addr} {C n d : String} (ht : t.eval args s none [] s = some (.ref a)) (hu : u.eval args s none [] s = some (.ref b)) (h : (Cond.eq (.field t C n d) u).value args s none s [] = some true) : Fld s s.heap a C n d (.ref b) := by
  obtain ⟨x, y, ex, ey, kx, ky⟩ := cmp_v (Or.inl h)
  have e1 : s.fieldOf? a C n d = some x := by rw [← fld_at ht]; exact ex
  cases hu.symm.trans ey
  have q : x = .ref b := by
    cases x <;> simp [Cond.value, ex, hu] at h ⊢
    exact h
  exact Fld.start (by rw [e1, q])
theorem own_staL {args : Array Value} {s : State} {C n d : String} {k : Int64} (h : (Cond.eq (.static C n d) (.long k)).value args s none s [] = some true) : (Term.static C n d).eval args s none [] s = some (.long k) := eqv_l rfl h
end Jvm.RoadKit
namespace Jvm.Pilot.@@N@@
open Jvm Jvm.ClassFile Sem Op Lib Jvm.Free Jvm.Stand Jvm.LawKit Jvm.RoadKit Bundle Jvm.Pilot.@@N@@.Jvm.D
theorem pd__IILjava_lang_String__V : parseMethodDescriptor "(IILjava/lang/String;)V" = some ⟨[.int, .int, (.object "java/lang/String")], none⟩ := by decide +kernel
theorem pd___I : parseMethodDescriptor "()I" = some ⟨[], some .int⟩ := by decide +kernel
theorem pd___V : parseMethodDescriptor "()V" = some ⟨[], none⟩ := by decide +kernel
theorem pd__Lcom_example_matchwright_matchwright_book_OrderPool__V : parseMethodDescriptor "(Lcom/example/matchwright/matchwright/book/OrderPool;)V" = some ⟨[(.object "com/example/matchwright/matchwright/book/OrderPool")], none⟩ := by decide +kernel
theorem pd__JJ_I : parseMethodDescriptor "(JJ)I" = some ⟨[.long, .long], some .int⟩ := by decide +kernel
theorem pd__IJ_V : parseMethodDescriptor "(IJ)V" = some ⟨[.int, .long], none⟩ := by decide +kernel
theorem pd__IZ_V : parseMethodDescriptor "(IZ)V" = some ⟨[.int, .boolean], none⟩ := by decide +kernel
theorem pd__I_Z : parseMethodDescriptor "(I)Z" = some ⟨[.int], some .boolean⟩ := by decide +kernel
theorem own_str {Z : State} {a0 : Array Value} (hw : ∀ d ∈ tables_1, d.before a0 Z = true) : ∀ d ∈ Bundle.stringAtoms, d.before a0 Z = true := by
  intro d hd
  simp only [Bundle.stringAtoms, List.mem_cons, List.not_mem_nil, or_false] at hd
  rcases hd with rfl | rfl | rfl | rfl | rfl | rfl | rfl
  · exact (hw _ (List.mem_of_getElem? (i := 7) rfl))
  · exact (hw _ (List.mem_of_getElem? (i := 8) rfl))
  · exact (hw _ (List.mem_of_getElem? (i := 9) rfl))
  · exact (hw _ (List.mem_of_getElem? (i := 10) rfl))
  · exact (hw _ (List.mem_of_getElem? (i := 11) rfl))
  · exact (hw _ (List.mem_of_getElem? (i := 12) rfl))
  · exact (hw _ (List.mem_of_getElem? (i := 13) rfl))
def own_bit (x m : Int32) : Int32 := if x &&& m = 0 then 0 else 1
theorem own_bit01 (x m : Int32) : own_bit x m = 0 ∨ own_bit x m = 1 := by
  unfold own_bit
  split
  · exact Or.inl rfl
  · exact Or.inr rfl
def own_red (p : Int32) : Int64 := if p = 0 then 0 else 1
def own_isr (w : Int64) : Int32 := if w.toInt32 = 0 then 0 else 1
theorem own_back {p : Int32} (h : p = 0 ∨ p = 1) : own_isr (own_red p) = p := by rcases h with rfl | rfl <;> rfl
theorem d2_0 : decode prog_9_method_1_code 0 = .ok (.aload_n 0, 1) := by decide +kernel
theorem d2_1 : decode prog_9_method_1_code 1 = .ok (.invokespecial 3, 3) := by decide +kernel
theorem d2_4 : decode prog_9_method_1_code 4 = .ok (.aload_n 0, 1) := by decide +kernel
theorem d2_5 : decode prog_9_method_1_code 5 = .ok (.ldc 11, 2) := by decide +kernel
theorem d2_7 : decode prog_9_method_1_code 7 = .ok (.putfield 12, 3) := by decide +kernel
theorem d2_10 : decode prog_9_method_1_code 10 = .ok (.aload_n 0, 1) := by decide +kernel
theorem d2_11 : decode prog_9_method_1_code 11 = .ok (.iload_n 1, 1) := by decide +kernel
theorem d2_12 : decode prog_9_method_1_code 12 = .ok (.putfield 16, 3) := by decide +kernel
theorem d2_15 : decode prog_9_method_1_code 15 = .ok (.aload_n 0, 1) := by decide +kernel
theorem d2_16 : decode prog_9_method_1_code 16 = .ok (.iload_n 2, 1) := by decide +kernel
theorem d2_17 : decode prog_9_method_1_code 17 = .ok (.putfield 19, 3) := by decide +kernel
theorem d2_20 : decode prog_9_method_1_code 20 = .ok (.aload_n 0, 1) := by decide +kernel
theorem d2_21 : decode prog_9_method_1_code 21 = .ok (.aload_n 3, 1) := by decide +kernel
theorem d2_22 : decode prog_9_method_1_code 22 = .ok (.putfield 22, 3) := by decide +kernel
theorem d2_25 : decode prog_9_method_1_code 25 = .ok (.aload_n 0, 1) := by decide +kernel
theorem d2_26 : decode prog_9_method_1_code 26 = .ok (.ldc 26, 2) := by decide +kernel
theorem d2_28 : decode prog_9_method_1_code 28 = .ok (.iload_n 1, 1) := by decide +kernel
theorem d2_29 : decode prog_9_method_1_code 29 = .ok (.idiv, 1) := by decide +kernel
theorem d2_30 : decode prog_9_method_1_code 30 = .ok (.iload_n 1, 1) := by decide +kernel
theorem d2_31 : decode prog_9_method_1_code 31 = .ok (.imul, 1) := by decide +kernel
theorem d2_32 : decode prog_9_method_1_code 32 = .ok (.putfield 27, 3) := by decide +kernel
theorem d2_35 : decode prog_9_method_1_code 35 = .ok (.aload_n 0, 1) := by decide +kernel
theorem d2_36 : decode prog_9_method_1_code 36 = .ok (.bipush 16, 2) := by decide +kernel
theorem d2_38 : decode prog_9_method_1_code 38 = .ok (.iload_n 1, 1) := by decide +kernel
theorem d2_39 : decode prog_9_method_1_code 39 = .ok (.imul, 1) := by decide +kernel
theorem d2_40 : decode prog_9_method_1_code 40 = .ok (.newarray .long, 2) := by decide +kernel
theorem d2_42 : decode prog_9_method_1_code 42 = .ok (.putfield 30, 3) := by decide +kernel
theorem d2_45 : decode prog_9_method_1_code 45 = .ok (.return_, 1) := by decide +kernel
theorem ef_2o (m : MethodId) (x0 : Addr) (x1 : Int32) (x2 : Int32) (x3 : Addr) : entryFrame m #[(.ref x0), (.int x1), (.int x2), (.ref x3)] 4 = mkF m 0 #[.val (.ref x0), .val (.int x1), .val (.int x2), .val (.ref x3)] [] := by first | (simp [entryFrame, mkF, argsToLocals, Value.category]; done) | rfl
theorem pn_com_example_matchwright_matchwright_book_RecordPool : plainName "com/example/matchwright/matchwright/book/RecordPool" = true := by first | (simp [plainName, overriddenIn]; done) | decide +kernel
def Q_2o (Z : State) (a1 : Addr) (a4 : Addr) (h0 : Heap) (n0 : Nat) (v : Option Value) (h : Heap) (L : List Loc) : Prop := v = none ∧ Fr n0 L ∧ Keep h0 h [a1] ∧ Exa Z h a1 "com/example/matchwright/matchwright/book/OrderPool"
set_option maxRecDepth 65536 in
set_option maxHeartbeats 40000000 in
theorem rm_2o (l : Launch) (Z : State) (a0 : Array Value) (hw : ∀ d ∈ tables_1, d.before a0 Z = true) (ws : List Jvm.Cond) (a1 : Addr) (a4 : Addr) (h0 : Heap) (n0 : Nat) (Z0 : n0 ≤ h0.size) (E_a1 : Exa Z h0 a1 "com/example/matchwright/matchwright/book/OrderPool") (F_spares : Fld Z h0 a1 "com/example/matchwright/matchwright/book/RecordPool" "spares" "I" (.int (0 : Int32))) (F_fieldsPerRecord : Fld Z h0 a1 "com/example/matchwright/matchwright/book/RecordPool" "fieldsPerRecord" "I" (.int (0 : Int32))) (F_spareLink : Fld Z h0 a1 "com/example/matchwright/matchwright/book/RecordPool" "spareLink" "I" (.int (0 : Int32))) (F_kind : Fld Z h0 a1 "com/example/matchwright/matchwright/book/RecordPool" "kind" "Ljava/lang/String;" .null) (F_maxLength : Fld Z h0 a1 "com/example/matchwright/matchwright/book/RecordPool" "maxLength" "I" (.int (0 : Int32))) (F_fields : Fld Z h0 a1 "com/example/matchwright/matchwright/book/RecordPool" "fields" "[J" .null) (g_a1 : n0 ≤ a1) :
    MetFree l (⟨"com/example/matchwright/matchwright/book/RecordPool", "<init>", "(IILjava/lang/String;)V"⟩ : MethodName) (head1 (Jvm.Cond.code (⟨"com/example/matchwright/matchwright/book/RecordPool", "<init>", "(IILjava/lang/String;)V"⟩ : MethodName) prog_9_method_1_code 4 none :: ws) ({ frames := 1, cells := 1, slots := 144, locals := 12 } : Room)) (fun a U => a = #[(.ref a1), (.int (9 : Int32)), (.int (1 : Int32)), (.ref a4)] ∧ Z.Warmed39 U.vm ∧ U.heap = h0) (fun _ _ _ _ _ => True) (fun _ U o U' => ∃ v L, o = .returned v ∧ Q_2o Z a1 a4 h0 n0 v U'.heap L ∧ FrameEnd U o U' L ({ frames := 1, cells := 1, slots := 144, locals := 12 } : Room).cells ({ frames := 1, cells := 1, slots := 144, locals := 12 } : Room).slots) := by
  refine MetFree.of_bodySF (plainFor_of_name pn_com_example_matchwright_matchwright_book_RecordPool) hisR ?_
  intro p e s m args below meth c s₁ Bd hml0 hP hK
  obtain ⟨rfl, hZ, hh⟩ := hP
  have hx := Bd.exec
  have hby := Bd.bytes
  have hml : c.maxLocals = 4 := hml0
  have hown : s.vm.findClass "com/example/matchwright/matchwright/book/RecordPool" = some m.cls := findClass_of_methodNamed Bd.named
  have hnm := (name_of_methodNamed Bd.named Bd.method).1
  have X0 : Stand p l e ({ frames := 1, cells := 1, slots := 144, locals := 12 } : Room) s m #[(.ref a1), (.int (9 : Int32)), (.int (1 : Int32)), (.ref a4)] below meth c s₁ [] 0 0 := Stand.of_body Bd
  have e0 : s₁.heap = h0 := by rw [← hh, Bd.state]; rfl
  have N0 := Fr.nil n0
  have pw0 : ∀ t, Steps p.tables e below (s₁.setTop (mkF m 0 #[.val (.ref a1), .val (.int (9 : Int32)), .val (.int (1 : Int32)), .val (.ref a4)] [])) t → Steps p.tables e below (s₁.setTop (entryFrame m #[(.ref a1), (.int (9 : Int32)), (.int (1 : Int32)), (.ref a4)] 4)) t := fun t k => castTop (ef_2o m a1 (9 : Int32) (1 : Int32) a4) k
  have K0 : Keep h0 h0 [a1] := Keep.refl h0 [a1]
  obtain ⟨T1, X1, e1, st1⟩ := initO X0 hx hZ hown (hw _ (List.mem_of_getElem? (i := 19) rfl)) (hw _ (List.mem_of_getElem? (i := 20) rfl)) (hw _ (List.mem_of_getElem? (i := 21) rfl)) e0 (g := (mkF m 1 #[.val (.ref a1), .val (.int (9 : Int32)), .val (.int (1 : Int32)), .val (.ref a4)] [(.ref a1)])) rfl (by rw [hml]; rfl) rfl (hb hby d2_1) (by decide) (W := 0) (by show 2 * 0 + _ ≤ _; exact Nat.le_of_eq rfl) (by decide)
  obtain ⟨T2, h2, X2, e2, W2, st2⟩ := putF X1 hx hZ hown (host := "") (Or.inl (hw _ (List.mem_of_getElem? (i := 23) rfl))) Via.refl e1 F_spares E_a1 (Or.inl (hw _ (List.mem_of_getElem? (i := 24) rfl))) (hw _ (List.mem_of_getElem? (i := 1) rfl)) (ty := .int) (by decide) rfl rfl (g := (mkF m 7 #[.val (.ref a1), .val (.int (9 : Int32)), .val (.int (1 : Int32)), .val (.ref a4)] [(.int (-2147483648 : Int32)), (.ref a1)])) rfl rfl (hb hby d2_7)
  have Fw2 := F_spares.same W2
  have K2 : Keep h0 h2 [a1] := K0.wr W2 (Or.inl (List.mem_of_getElem? (i := 0) rfl))
  have N2 := Fr.snoc X2 N0 g_a1
  have Z2 : n0 ≤ h2.size := (Nat.le_trans Z0 (Nat.le_of_eq (Wr.size W2).symm))
  obtain ⟨T3, h3, X3, e3, W3, st3⟩ := putF X2 hx hZ hown (host := "") (Or.inl (hw _ (List.mem_of_getElem? (i := 25) rfl))) Via.refl e2 (F_fieldsPerRecord.other W2 (Or.inr (slot_ne (Or.inr (hw _ (List.mem_of_getElem? (i := 26) rfl))) (Or.inl (hw _ (List.mem_of_getElem? (i := 24) rfl))) (by decide) (t := .int) (t' := .int) (by decide) (by decide)))) (E_a1.wr W2) (Or.inr ⟨(hw _ (List.mem_of_getElem? (i := 26) rfl)), rfl, hnm⟩) (hw _ (List.mem_of_getElem? (i := 1) rfl)) (ty := .int) (by decide) rfl rfl (g := (mkF m 12 #[.val (.ref a1), .val (.int (9 : Int32)), .val (.int (1 : Int32)), .val (.ref a4)] [(.int (9 : Int32)), (.ref a1)])) rfl rfl (hb hby d2_12)
  have Fw3 := (F_fieldsPerRecord.other W2 (Or.inr (slot_ne (Or.inr (hw _ (List.mem_of_getElem? (i := 26) rfl))) (Or.inl (hw _ (List.mem_of_getElem? (i := 24) rfl))) (by decide) (t := .int) (t' := .int) (by decide) (by decide)))).same W3
  have K3 : Keep h0 h3 [a1] := K2.wr W3 (Or.inl (List.mem_of_getElem? (i := 0) rfl))
  have N3 := Fr.snoc X3 N2 g_a1
  have Z3 : n0 ≤ h3.size := (Nat.le_trans Z2 (Nat.le_of_eq (Wr.size W3).symm))
  obtain ⟨T4, h4, X4, e4, W4, st4⟩ := putF X3 hx hZ hown (host := "") (Or.inl (hw _ (List.mem_of_getElem? (i := 27) rfl))) Via.refl e3 ((F_spareLink.other W2 (Or.inr (slot_ne (Or.inr (hw _ (List.mem_of_getElem? (i := 28) rfl))) (Or.inl (hw _ (List.mem_of_getElem? (i := 24) rfl))) (by decide) (t := .int) (t' := .int) (by decide) (by decide)))).other W3 (Or.inr (slot_ne (Or.inr (hw _ (List.mem_of_getElem? (i := 28) rfl))) (Or.inr (hw _ (List.mem_of_getElem? (i := 26) rfl))) (by decide) (t := .int) (t' := .int) (by decide) (by decide)))) ((E_a1.wr W2).wr W3) (Or.inr ⟨(hw _ (List.mem_of_getElem? (i := 28) rfl)), rfl, hnm⟩) (hw _ (List.mem_of_getElem? (i := 1) rfl)) (ty := .int) (by decide) rfl rfl (g := (mkF m 17 #[.val (.ref a1), .val (.int (9 : Int32)), .val (.int (1 : Int32)), .val (.ref a4)] [(.int (1 : Int32)), (.ref a1)])) rfl rfl (hb hby d2_17)
  have Fw4 := ((F_spareLink.other W2 (Or.inr (slot_ne (Or.inr (hw _ (List.mem_of_getElem? (i := 28) rfl))) (Or.inl (hw _ (List.mem_of_getElem? (i := 24) rfl))) (by decide) (t := .int) (t' := .int) (by decide) (by decide)))).other W3 (Or.inr (slot_ne (Or.inr (hw _ (List.mem_of_getElem? (i := 28) rfl))) (Or.inr (hw _ (List.mem_of_getElem? (i := 26) rfl))) (by decide) (t := .int) (t' := .int) (by decide) (by decide)))).same W4
  have K4 : Keep h0 h4 [a1] := K3.wr W4 (Or.inl (List.mem_of_getElem? (i := 0) rfl))
  have N4 := Fr.snoc X4 N3 g_a1
  have Z4 : n0 ≤ h4.size := (Nat.le_trans Z3 (Nat.le_of_eq (Wr.size W4).symm))
  obtain ⟨T5, h5, X5, e5, W5, st5⟩ := putF X4 hx hZ hown (host := "") (Or.inl (hw _ (List.mem_of_getElem? (i := 29) rfl))) Via.refl e4 (((F_kind.other W2 (Or.inr (slot_ne (Or.inr (hw _ (List.mem_of_getElem? (i := 30) rfl))) (Or.inl (hw _ (List.mem_of_getElem? (i := 24) rfl))) (by decide) (t := (.object "java/lang/String")) (t' := .int) (by decide) (by decide)))).other W3 (Or.inr (slot_ne (Or.inr (hw _ (List.mem_of_getElem? (i := 30) rfl))) (Or.inr (hw _ (List.mem_of_getElem? (i := 26) rfl))) (by decide) (t := (.object "java/lang/String")) (t' := .int) (by decide) (by decide)))).other W4 (Or.inr (slot_ne (Or.inr (hw _ (List.mem_of_getElem? (i := 30) rfl))) (Or.inr (hw _ (List.mem_of_getElem? (i := 28) rfl))) (by decide) (t := (.object "java/lang/String")) (t' := .int) (by decide) (by decide)))) (((E_a1.wr W2).wr W3).wr W4) (Or.inr ⟨(hw _ (List.mem_of_getElem? (i := 30) rfl)), rfl, hnm⟩) (hw _ (List.mem_of_getElem? (i := 1) rfl)) (ty := (.object "java/lang/String")) (by decide) rfl rfl (g := (mkF m 22 #[.val (.ref a1), .val (.int (9 : Int32)), .val (.int (1 : Int32)), .val (.ref a4)] [(.ref a4), (.ref a1)])) rfl rfl (hb hby d2_22)
  have Fw5 := (((F_kind.other W2 (Or.inr (slot_ne (Or.inr (hw _ (List.mem_of_getElem? (i := 30) rfl))) (Or.inl (hw _ (List.mem_of_getElem? (i := 24) rfl))) (by decide) (t := (.object "java/lang/String")) (t' := .int) (by decide) (by decide)))).other W3 (Or.inr (slot_ne (Or.inr (hw _ (List.mem_of_getElem? (i := 30) rfl))) (Or.inr (hw _ (List.mem_of_getElem? (i := 26) rfl))) (by decide) (t := (.object "java/lang/String")) (t' := .int) (by decide) (by decide)))).other W4 (Or.inr (slot_ne (Or.inr (hw _ (List.mem_of_getElem? (i := 30) rfl))) (Or.inr (hw _ (List.mem_of_getElem? (i := 28) rfl))) (by decide) (t := (.object "java/lang/String")) (t' := .int) (by decide) (by decide)))).same W5
  have K5 : Keep h0 h5 [a1] := K4.wr W5 (Or.inl (List.mem_of_getElem? (i := 0) rfl))
  have N5 := Fr.snoc X5 N4 g_a1
  have Z5 : n0 ≤ h5.size := (Nat.le_trans Z4 (Nat.le_of_eq (Wr.size W5).symm))
  obtain ⟨T6, h6, X6, e6, W6, st6⟩ := putF X5 hx hZ hown (host := "") (Or.inl (hw _ (List.mem_of_getElem? (i := 32) rfl))) Via.refl e5 ((((F_maxLength.other W2 (Or.inr (slot_ne (Or.inr (hw _ (List.mem_of_getElem? (i := 33) rfl))) (Or.inl (hw _ (List.mem_of_getElem? (i := 24) rfl))) (by decide) (t := .int) (t' := .int) (by decide) (by decide)))).other W3 (Or.inr (slot_ne (Or.inr (hw _ (List.mem_of_getElem? (i := 33) rfl))) (Or.inr (hw _ (List.mem_of_getElem? (i := 26) rfl))) (by decide) (t := .int) (t' := .int) (by decide) (by decide)))).other W4 (Or.inr (slot_ne (Or.inr (hw _ (List.mem_of_getElem? (i := 33) rfl))) (Or.inr (hw _ (List.mem_of_getElem? (i := 28) rfl))) (by decide) (t := .int) (t' := .int) (by decide) (by decide)))).other W5 (Or.inr (slot_ne (Or.inr (hw _ (List.mem_of_getElem? (i := 33) rfl))) (Or.inr (hw _ (List.mem_of_getElem? (i := 30) rfl))) (by decide) (t := .int) (t' := (.object "java/lang/String")) (by decide) (by decide)))) ((((E_a1.wr W2).wr W3).wr W4).wr W5) (Or.inr ⟨(hw _ (List.mem_of_getElem? (i := 33) rfl)), rfl, hnm⟩) (hw _ (List.mem_of_getElem? (i := 1) rfl)) (ty := .int) (by decide) rfl rfl (g := (mkF m 32 #[.val (.ref a1), .val (.int (9 : Int32)), .val (.int (1 : Int32)), .val (.ref a4)] [(.int (((2147483639 : Int32) / (9 : Int32)) * (9 : Int32))), (.ref a1)])) rfl rfl (hb hby d2_32)
  have Fw6 := ((((F_maxLength.other W2 (Or.inr (slot_ne (Or.inr (hw _ (List.mem_of_getElem? (i := 33) rfl))) (Or.inl (hw _ (List.mem_of_getElem? (i := 24) rfl))) (by decide) (t := .int) (t' := .int) (by decide) (by decide)))).other W3 (Or.inr (slot_ne (Or.inr (hw _ (List.mem_of_getElem? (i := 33) rfl))) (Or.inr (hw _ (List.mem_of_getElem? (i := 26) rfl))) (by decide) (t := .int) (t' := .int) (by decide) (by decide)))).other W4 (Or.inr (slot_ne (Or.inr (hw _ (List.mem_of_getElem? (i := 33) rfl))) (Or.inr (hw _ (List.mem_of_getElem? (i := 28) rfl))) (by decide) (t := .int) (t' := .int) (by decide) (by decide)))).other W5 (Or.inr (slot_ne (Or.inr (hw _ (List.mem_of_getElem? (i := 33) rfl))) (Or.inr (hw _ (List.mem_of_getElem? (i := 30) rfl))) (by decide) (t := .int) (t' := (.object "java/lang/String")) (by decide) (by decide)))).same W6
  have K6 : Keep h0 h6 [a1] := K5.wr W6 (Or.inl (List.mem_of_getElem? (i := 0) rfl))
  have N6 := Fr.snoc X6 N5 g_a1
  have Z6 : n0 ≤ h6.size := (Nat.le_trans Z5 (Nat.le_of_eq (Wr.size W6).symm))
  obtain ⟨T7, h7, k7, X7, e7, E7, A7, st7⟩ := newP X6 hx hZ (hw _ (List.mem_of_getElem? (i := 34) rfl)) e6 (g := (mkF m 40 #[.val (.ref a1), .val (.int (9 : Int32)), .val (.int (1 : Int32)), .val (.ref a4)] [(.int (144 : Int32)), (.ref a1)])) rfl (hb hby d2_40) rfl (by decide) (cap := 144) (by decide) (by decide) (by decide) (by decide)
  obtain ⟨b7, g7⟩ : ∃ z, z = h6.size := ⟨_, rfl⟩
  rw [← g7] at A7 st7
  have g_b7 : n0 ≤ b7 := Nat.le_trans Z6 (Nat.le_of_eq g7.symm)
  have sz_b7 : h0.size ≤ b7 := Nat.le_trans K6.1 (Nat.le_of_eq g7.symm)
  have V7 := (Arv.new A7 (by decide)).arh
  have K7 : Keep h0 h7 [a1] := K6.ext E7
  have Z7 : n0 ≤ h7.size := (Nat.le_trans Z6 E7.1)
  obtain ⟨T8, h8, X8, e8, W8, st8⟩ := putF X7 hx hZ hown (host := "") (Or.inl (hw _ (List.mem_of_getElem? (i := 35) rfl))) Via.refl e7 ((((((F_fields.other W2 (Or.inr (slot_ne (Or.inl (hw _ (List.mem_of_getElem? (i := 36) rfl))) (Or.inl (hw _ (List.mem_of_getElem? (i := 24) rfl))) (by decide) (t := (.array .long)) (t' := .int) (by decide) (by decide)))).other W3 (Or.inr (slot_ne (Or.inl (hw _ (List.mem_of_getElem? (i := 36) rfl))) (Or.inr (hw _ (List.mem_of_getElem? (i := 26) rfl))) (by decide) (t := (.array .long)) (t' := .int) (by decide) (by decide)))).other W4 (Or.inr (slot_ne (Or.inl (hw _ (List.mem_of_getElem? (i := 36) rfl))) (Or.inr (hw _ (List.mem_of_getElem? (i := 28) rfl))) (by decide) (t := (.array .long)) (t' := .int) (by decide) (by decide)))).other W5 (Or.inr (slot_ne (Or.inl (hw _ (List.mem_of_getElem? (i := 36) rfl))) (Or.inr (hw _ (List.mem_of_getElem? (i := 30) rfl))) (by decide) (t := (.array .long)) (t' := (.object "java/lang/String")) (by decide) (by decide)))).other W6 (Or.inr (slot_ne (Or.inl (hw _ (List.mem_of_getElem? (i := 36) rfl))) (Or.inr (hw _ (List.mem_of_getElem? (i := 33) rfl))) (by decide) (t := (.array .long)) (t' := .int) (by decide) (by decide)))).ext E7) ((((((E_a1.wr W2).wr W3).wr W4).wr W5).wr W6).ext E7) (Or.inl (hw _ (List.mem_of_getElem? (i := 36) rfl))) (hw _ (List.mem_of_getElem? (i := 1) rfl)) (ty := (.array .long)) (by decide) rfl rfl (g := (mkF m 42 #[.val (.ref a1), .val (.int (9 : Int32)), .val (.int (1 : Int32)), .val (.ref a4)] [(.ref b7), (.ref a1)])) rfl rfl (hb hby d2_42)
  have Fw8 := ((((((F_fields.other W2 (Or.inr (slot_ne (Or.inl (hw _ (List.mem_of_getElem? (i := 36) rfl))) (Or.inl (hw _ (List.mem_of_getElem? (i := 24) rfl))) (by decide) (t := (.array .long)) (t' := .int) (by decide) (by decide)))).other W3 (Or.inr (slot_ne (Or.inl (hw _ (List.mem_of_getElem? (i := 36) rfl))) (Or.inr (hw _ (List.mem_of_getElem? (i := 26) rfl))) (by decide) (t := (.array .long)) (t' := .int) (by decide) (by decide)))).other W4 (Or.inr (slot_ne (Or.inl (hw _ (List.mem_of_getElem? (i := 36) rfl))) (Or.inr (hw _ (List.mem_of_getElem? (i := 28) rfl))) (by decide) (t := (.array .long)) (t' := .int) (by decide) (by decide)))).other W5 (Or.inr (slot_ne (Or.inl (hw _ (List.mem_of_getElem? (i := 36) rfl))) (Or.inr (hw _ (List.mem_of_getElem? (i := 30) rfl))) (by decide) (t := (.array .long)) (t' := (.object "java/lang/String")) (by decide) (by decide)))).other W6 (Or.inr (slot_ne (Or.inl (hw _ (List.mem_of_getElem? (i := 36) rfl))) (Or.inr (hw _ (List.mem_of_getElem? (i := 33) rfl))) (by decide) (t := (.array .long)) (t' := .int) (by decide) (by decide)))).ext E7).same W8
  have K8 : Keep h0 h8 [a1] := K7.wr W8 (Or.inl (List.mem_of_getElem? (i := 0) rfl))
  have N8 := Fr.snoc X8 N6 g_a1
  have Z8 : n0 ≤ h8.size := (Nat.le_trans Z7 (Nat.le_of_eq (Wr.size W8).symm))
  obtain ⟨fs, hr, hrun, hended, hW, hsame⟩ := X8.leave (v := none) (fun _ => rfl)
  refine ⟨_, _, pw0 _ ?_, hrun, hended, _, _, rfl, ?_, ⟨_, rfl⟩, hW, hsame.mono (by decide) (by decide)⟩
  · skip
    refine XS.aloadN X0.here hx rfl (hb hby d2_0) rfl rfl ?_
    show Steps p.tables e below (s₁.setTop (mkF m 1 #[.val (.ref a1), .val (.int (9 : Int32)), .val (.int (1 : Int32)), .val (.ref a4)] [(.ref a1)])) _
    refine st1 _ ?_
    show Steps p.tables e below (T1.setTop (mkF m 4 #[.val (.ref a1), .val (.int (9 : Int32)), .val (.int (1 : Int32)), .val (.ref a4)] [])) _
    refine XS.aloadN X1.here hx rfl (hb hby d2_4) rfl rfl ?_
    show Steps p.tables e below (T1.setTop (mkF m 5 #[.val (.ref a1), .val (.int (9 : Int32)), .val (.int (1 : Int32)), .val (.ref a4)] [(.ref a1)])) _
    refine X1.ldcInt hx hown (mvT hZ (hw _ (List.mem_of_getElem? (i := 22) rfl))) (g := (mkF m 5 #[.val (.ref a1), .val (.int (9 : Int32)), .val (.int (1 : Int32)), .val (.ref a4)] [(.ref a1)])) rfl (hb hby d2_5) _ ?_
    show Steps p.tables e below (T1.setTop (mkF m 7 #[.val (.ref a1), .val (.int (9 : Int32)), .val (.int (1 : Int32)), .val (.ref a4)] [(.int (-2147483648 : Int32)), (.ref a1)])) _
    refine st2 _ ?_
    show Steps p.tables e below (T2.setTop (mkF m 10 #[.val (.ref a1), .val (.int (9 : Int32)), .val (.int (1 : Int32)), .val (.ref a4)] [])) _
    refine XS.aloadN X2.here hx rfl (hb hby d2_10) rfl rfl ?_
    show Steps p.tables e below (T2.setTop (mkF m 11 #[.val (.ref a1), .val (.int (9 : Int32)), .val (.int (1 : Int32)), .val (.ref a4)] [(.ref a1)])) _
    refine XS.iloadN X2.here hx rfl (hb hby d2_11) rfl ?_
    show Steps p.tables e below (T2.setTop (mkF m 12 #[.val (.ref a1), .val (.int (9 : Int32)), .val (.int (1 : Int32)), .val (.ref a4)] [(.int (9 : Int32)), (.ref a1)])) _
    refine st3 _ ?_
    show Steps p.tables e below (T3.setTop (mkF m 15 #[.val (.ref a1), .val (.int (9 : Int32)), .val (.int (1 : Int32)), .val (.ref a4)] [])) _
    refine XS.aloadN X3.here hx rfl (hb hby d2_15) rfl rfl ?_
    show Steps p.tables e below (T3.setTop (mkF m 16 #[.val (.ref a1), .val (.int (9 : Int32)), .val (.int (1 : Int32)), .val (.ref a4)] [(.ref a1)])) _
    refine XS.iloadN X3.here hx rfl (hb hby d2_16) rfl ?_
    show Steps p.tables e below (T3.setTop (mkF m 17 #[.val (.ref a1), .val (.int (9 : Int32)), .val (.int (1 : Int32)), .val (.ref a4)] [(.int (1 : Int32)), (.ref a1)])) _
    refine st4 _ ?_
    show Steps p.tables e below (T4.setTop (mkF m 20 #[.val (.ref a1), .val (.int (9 : Int32)), .val (.int (1 : Int32)), .val (.ref a4)] [])) _
    refine XS.aloadN X4.here hx rfl (hb hby d2_20) rfl rfl ?_
    show Steps p.tables e below (T4.setTop (mkF m 21 #[.val (.ref a1), .val (.int (9 : Int32)), .val (.int (1 : Int32)), .val (.ref a4)] [(.ref a1)])) _
    refine XS.aloadN X4.here hx rfl (hb hby d2_21) rfl rfl ?_
    show Steps p.tables e below (T4.setTop (mkF m 22 #[.val (.ref a1), .val (.int (9 : Int32)), .val (.int (1 : Int32)), .val (.ref a4)] [(.ref a4), (.ref a1)])) _
    refine st5 _ ?_
    show Steps p.tables e below (T5.setTop (mkF m 25 #[.val (.ref a1), .val (.int (9 : Int32)), .val (.int (1 : Int32)), .val (.ref a4)] [])) _
    refine XS.aloadN X5.here hx rfl (hb hby d2_25) rfl rfl ?_
    show Steps p.tables e below (T5.setTop (mkF m 26 #[.val (.ref a1), .val (.int (9 : Int32)), .val (.int (1 : Int32)), .val (.ref a4)] [(.ref a1)])) _
    refine X5.ldcInt hx hown (mvT hZ (hw _ (List.mem_of_getElem? (i := 31) rfl))) (g := (mkF m 26 #[.val (.ref a1), .val (.int (9 : Int32)), .val (.int (1 : Int32)), .val (.ref a4)] [(.ref a1)])) rfl (hb hby d2_26) _ ?_
    show Steps p.tables e below (T5.setTop (mkF m 28 #[.val (.ref a1), .val (.int (9 : Int32)), .val (.int (1 : Int32)), .val (.ref a4)] [(.int (2147483639 : Int32)), (.ref a1)])) _
    refine XS.iloadN X5.here hx rfl (hb hby d2_28) rfl ?_
    show Steps p.tables e below (T5.setTop (mkF m 29 #[.val (.ref a1), .val (.int (9 : Int32)), .val (.int (1 : Int32)), .val (.ref a4)] [(.int (9 : Int32)), (.int (2147483639 : Int32)), (.ref a1)])) _
    refine XS.idiv X5.here hx rfl (hb hby d2_29) rfl (by decide) ?_
    show Steps p.tables e below (T5.setTop (mkF m 30 #[.val (.ref a1), .val (.int (9 : Int32)), .val (.int (1 : Int32)), .val (.ref a4)] [(.int ((2147483639 : Int32) / (9 : Int32))), (.ref a1)])) _
    refine XS.iloadN X5.here hx rfl (hb hby d2_30) rfl ?_
    show Steps p.tables e below (T5.setTop (mkF m 31 #[.val (.ref a1), .val (.int (9 : Int32)), .val (.int (1 : Int32)), .val (.ref a4)] [(.int (9 : Int32)), (.int ((2147483639 : Int32) / (9 : Int32))), (.ref a1)])) _
    refine XS.imul X5.here hx rfl (hb hby d2_31) rfl ?_
    show Steps p.tables e below (T5.setTop (mkF m 32 #[.val (.ref a1), .val (.int (9 : Int32)), .val (.int (1 : Int32)), .val (.ref a4)] [(.int (((2147483639 : Int32) / (9 : Int32)) * (9 : Int32))), (.ref a1)])) _
    refine st6 _ ?_
    show Steps p.tables e below (T6.setTop (mkF m 35 #[.val (.ref a1), .val (.int (9 : Int32)), .val (.int (1 : Int32)), .val (.ref a4)] [])) _
    refine XS.aloadN X6.here hx rfl (hb hby d2_35) rfl rfl ?_
    show Steps p.tables e below (T6.setTop (mkF m 36 #[.val (.ref a1), .val (.int (9 : Int32)), .val (.int (1 : Int32)), .val (.ref a4)] [(.ref a1)])) _
    refine XS.bipush X6.here hx rfl (hb hby d2_36) ?_
    show Steps p.tables e below (T6.setTop (mkF m 38 #[.val (.ref a1), .val (.int (9 : Int32)), .val (.int (1 : Int32)), .val (.ref a4)] [(.int (16 : Int32)), (.ref a1)])) _
    refine XS.iloadN X6.here hx rfl (hb hby d2_38) rfl ?_
    show Steps p.tables e below (T6.setTop (mkF m 39 #[.val (.ref a1), .val (.int (9 : Int32)), .val (.int (1 : Int32)), .val (.ref a4)] [(.int (9 : Int32)), (.int (16 : Int32)), (.ref a1)])) _
    refine XS.imul X6.here hx rfl (hb hby d2_39) rfl ?_
    show Steps p.tables e below (T6.setTop (mkF m 40 #[.val (.ref a1), .val (.int (9 : Int32)), .val (.int (1 : Int32)), .val (.ref a4)] [(.int (144 : Int32)), (.ref a1)])) _
    refine st7 _ ?_
    show Steps p.tables e below (T7.setTop (mkF m 42 #[.val (.ref a1), .val (.int (9 : Int32)), .val (.int (1 : Int32)), .val (.ref a4)] [(.ref b7), (.ref a1)])) _
    refine st8 _ ?_
    show Steps p.tables e below (T8.setTop (mkF m 45 #[.val (.ref a1), .val (.int (9 : Int32)), .val (.int (1 : Int32)), .val (.ref a4)] [])) _
    exact X8.returnOut hx Bd.returns (hb hby d2_45) hr
  · show Q_2o Z a1 a4 h0 n0 _ T8.heap _
    rw [e8]
    exact ⟨rfl, N8, K8, (((((((E_a1.wr W2).wr W3).wr W4).wr W5).wr W6).ext E7).wr W8)⟩
theorem ef_2l (m : MethodId) (x0 : Addr) (x1 : Int32) (x2 : Int32) (x3 : Addr) : entryFrame m #[(.ref x0), (.int x1), (.int x2), (.ref x3)] 4 = mkF m 0 #[.val (.ref x0), .val (.int x1), .val (.int x2), .val (.ref x3)] [] := by first | (simp [entryFrame, mkF, argsToLocals, Value.category]; done) | rfl
def Q_2l (Z : State) (a1 : Addr) (a4 : Addr) (h0 : Heap) (n0 : Nat) (v : Option Value) (h : Heap) (L : List Loc) : Prop := v = none ∧ Fr n0 L ∧ Keep h0 h [a1] ∧ Exa Z h a1 "com/example/matchwright/matchwright/book/LevelPool" ∧ Fld Z h a1 "com/example/matchwright/matchwright/book/RecordPool" "spares" "I" (.int (-2147483648 : Int32)) ∧ Fld Z h a1 "com/example/matchwright/matchwright/book/RecordPool" "fieldsPerRecord" "I" (.int (14 : Int32)) ∧ Fld Z h a1 "com/example/matchwright/matchwright/book/RecordPool" "inUse" "I" (.int (0 : Int32)) ∧ Fld Z h a1 "com/example/matchwright/matchwright/book/RecordPool" "end" "I" (.int (0 : Int32)) ∧ ∃ (fa : Addr) (kk : ClassId), h0.size ≤ fa ∧ Fld Z h a1 "com/example/matchwright/matchwright/book/RecordPool" "fields" "[J" (.ref fa) ∧ Arh Z h fa kk .long (224 : Int32) [] [] (.long (0 : Int64))
set_option maxRecDepth 65536 in
set_option maxHeartbeats 40000000 in
theorem rm_2l (l : Launch) (Z : State) (a0 : Array Value) (hw : ∀ d ∈ tables_1, d.before a0 Z = true) (ws : List Jvm.Cond) (a1 : Addr) (a4 : Addr) (h0 : Heap) (n0 : Nat) (Z0 : n0 ≤ h0.size) (E_a1 : Exa Z h0 a1 "com/example/matchwright/matchwright/book/LevelPool") (F_spares : Fld Z h0 a1 "com/example/matchwright/matchwright/book/RecordPool" "spares" "I" (.int (0 : Int32))) (F_fieldsPerRecord : Fld Z h0 a1 "com/example/matchwright/matchwright/book/RecordPool" "fieldsPerRecord" "I" (.int (0 : Int32))) (F_spareLink : Fld Z h0 a1 "com/example/matchwright/matchwright/book/RecordPool" "spareLink" "I" (.int (0 : Int32))) (F_kind : Fld Z h0 a1 "com/example/matchwright/matchwright/book/RecordPool" "kind" "Ljava/lang/String;" .null) (F_maxLength : Fld Z h0 a1 "com/example/matchwright/matchwright/book/RecordPool" "maxLength" "I" (.int (0 : Int32))) (F_fields : Fld Z h0 a1 "com/example/matchwright/matchwright/book/RecordPool" "fields" "[J" .null) (F_inUse : Fld Z h0 a1 "com/example/matchwright/matchwright/book/RecordPool" "inUse" "I" (.int (0 : Int32))) (F_end : Fld Z h0 a1 "com/example/matchwright/matchwright/book/RecordPool" "end" "I" (.int (0 : Int32))) (g_a1 : n0 ≤ a1) :
    MetFree l (⟨"com/example/matchwright/matchwright/book/RecordPool", "<init>", "(IILjava/lang/String;)V"⟩ : MethodName) (head1 (Jvm.Cond.code (⟨"com/example/matchwright/matchwright/book/RecordPool", "<init>", "(IILjava/lang/String;)V"⟩ : MethodName) prog_9_method_1_code 4 none :: ws) ({ frames := 1, cells := 1, slots := 224, locals := 12 } : Room)) (fun a U => a = #[(.ref a1), (.int (14 : Int32)), (.int (13 : Int32)), (.ref a4)] ∧ Z.Warmed39 U.vm ∧ U.heap = h0) (fun _ _ _ _ _ => True) (fun _ U o U' => ∃ v L, o = .returned v ∧ Q_2l Z a1 a4 h0 n0 v U'.heap L ∧ FrameEnd U o U' L ({ frames := 1, cells := 1, slots := 224, locals := 12 } : Room).cells ({ frames := 1, cells := 1, slots := 224, locals := 12 } : Room).slots) := by
  refine MetFree.of_bodySF (plainFor_of_name pn_com_example_matchwright_matchwright_book_RecordPool) hisR ?_
  intro p e s m args below meth c s₁ Bd hml0 hP hK
  obtain ⟨rfl, hZ, hh⟩ := hP
  have hx := Bd.exec
  have hby := Bd.bytes
  have hml : c.maxLocals = 4 := hml0
  have hown : s.vm.findClass "com/example/matchwright/matchwright/book/RecordPool" = some m.cls := findClass_of_methodNamed Bd.named
  have hnm := (name_of_methodNamed Bd.named Bd.method).1
  have X0 : Stand p l e ({ frames := 1, cells := 1, slots := 224, locals := 12 } : Room) s m #[(.ref a1), (.int (14 : Int32)), (.int (13 : Int32)), (.ref a4)] below meth c s₁ [] 0 0 := Stand.of_body Bd
  have e0 : s₁.heap = h0 := by rw [← hh, Bd.state]; rfl
  have N0 := Fr.nil n0
  have pw0 : ∀ t, Steps p.tables e below (s₁.setTop (mkF m 0 #[.val (.ref a1), .val (.int (14 : Int32)), .val (.int (13 : Int32)), .val (.ref a4)] [])) t → Steps p.tables e below (s₁.setTop (entryFrame m #[(.ref a1), (.int (14 : Int32)), (.int (13 : Int32)), (.ref a4)] 4)) t := fun t k => castTop (ef_2l m a1 (14 : Int32) (13 : Int32) a4) k
  have K0 : Keep h0 h0 [a1] := Keep.refl h0 [a1]
  obtain ⟨T9, X9, e9, st9⟩ := initO X0 hx hZ hown (hw _ (List.mem_of_getElem? (i := 19) rfl)) (hw _ (List.mem_of_getElem? (i := 20) rfl)) (hw _ (List.mem_of_getElem? (i := 21) rfl)) e0 (g := (mkF m 1 #[.val (.ref a1), .val (.int (14 : Int32)), .val (.int (13 : Int32)), .val (.ref a4)] [(.ref a1)])) rfl (by rw [hml]; rfl) rfl (hb hby d2_1) (by decide) (W := 0) (by show 2 * 0 + _ ≤ _; exact Nat.le_of_eq rfl) (by decide)
  obtain ⟨T10, h10, X10, e10, W10, st10⟩ := putF X9 hx hZ hown (host := "") (Or.inl (hw _ (List.mem_of_getElem? (i := 23) rfl))) Via.refl e9 F_spares E_a1 (Or.inl (hw _ (List.mem_of_getElem? (i := 45) rfl))) (hw _ (List.mem_of_getElem? (i := 38) rfl)) (ty := .int) (by decide) rfl rfl (g := (mkF m 7 #[.val (.ref a1), .val (.int (14 : Int32)), .val (.int (13 : Int32)), .val (.ref a4)] [(.int (-2147483648 : Int32)), (.ref a1)])) rfl rfl (hb hby d2_7)
  have Fw10 := F_spares.same W10
  have K10 : Keep h0 h10 [a1] := K0.wr W10 (Or.inl (List.mem_of_getElem? (i := 0) rfl))
  have N10 := Fr.snoc X10 N0 g_a1
  have Z10 : n0 ≤ h10.size := (Nat.le_trans Z0 (Nat.le_of_eq (Wr.size W10).symm))
  obtain ⟨T11, h11, X11, e11, W11, st11⟩ := putF X10 hx hZ hown (host := "") (Or.inl (hw _ (List.mem_of_getElem? (i := 25) rfl))) Via.refl e10 (F_fieldsPerRecord.other W10 (Or.inr (slot_ne (Or.inr (hw _ (List.mem_of_getElem? (i := 46) rfl))) (Or.inl (hw _ (List.mem_of_getElem? (i := 45) rfl))) (by decide) (t := .int) (t' := .int) (by decide) (by decide)))) (E_a1.wr W10) (Or.inr ⟨(hw _ (List.mem_of_getElem? (i := 46) rfl)), rfl, hnm⟩) (hw _ (List.mem_of_getElem? (i := 38) rfl)) (ty := .int) (by decide) rfl rfl (g := (mkF m 12 #[.val (.ref a1), .val (.int (14 : Int32)), .val (.int (13 : Int32)), .val (.ref a4)] [(.int (14 : Int32)), (.ref a1)])) rfl rfl (hb hby d2_12)
  have Fw11 := (F_fieldsPerRecord.other W10 (Or.inr (slot_ne (Or.inr (hw _ (List.mem_of_getElem? (i := 46) rfl))) (Or.inl (hw _ (List.mem_of_getElem? (i := 45) rfl))) (by decide) (t := .int) (t' := .int) (by decide) (by decide)))).same W11
  have K11 : Keep h0 h11 [a1] := K10.wr W11 (Or.inl (List.mem_of_getElem? (i := 0) rfl))
  have N11 := Fr.snoc X11 N10 g_a1
  have Z11 : n0 ≤ h11.size := (Nat.le_trans Z10 (Nat.le_of_eq (Wr.size W11).symm))
  obtain ⟨T12, h12, X12, e12, W12, st12⟩ := putF X11 hx hZ hown (host := "") (Or.inl (hw _ (List.mem_of_getElem? (i := 27) rfl))) Via.refl e11 ((F_spareLink.other W10 (Or.inr (slot_ne (Or.inr (hw _ (List.mem_of_getElem? (i := 47) rfl))) (Or.inl (hw _ (List.mem_of_getElem? (i := 45) rfl))) (by decide) (t := .int) (t' := .int) (by decide) (by decide)))).other W11 (Or.inr (slot_ne (Or.inr (hw _ (List.mem_of_getElem? (i := 47) rfl))) (Or.inr (hw _ (List.mem_of_getElem? (i := 46) rfl))) (by decide) (t := .int) (t' := .int) (by decide) (by decide)))) ((E_a1.wr W10).wr W11) (Or.inr ⟨(hw _ (List.mem_of_getElem? (i := 47) rfl)), rfl, hnm⟩) (hw _ (List.mem_of_getElem? (i := 38) rfl)) (ty := .int) (by decide) rfl rfl (g := (mkF m 17 #[.val (.ref a1), .val (.int (14 : Int32)), .val (.int (13 : Int32)), .val (.ref a4)] [(.int (13 : Int32)), (.ref a1)])) rfl rfl (hb hby d2_17)
  have Fw12 := ((F_spareLink.other W10 (Or.inr (slot_ne (Or.inr (hw _ (List.mem_of_getElem? (i := 47) rfl))) (Or.inl (hw _ (List.mem_of_getElem? (i := 45) rfl))) (by decide) (t := .int) (t' := .int) (by decide) (by decide)))).other W11 (Or.inr (slot_ne (Or.inr (hw _ (List.mem_of_getElem? (i := 47) rfl))) (Or.inr (hw _ (List.mem_of_getElem? (i := 46) rfl))) (by decide) (t := .int) (t' := .int) (by decide) (by decide)))).same W12
  have K12 : Keep h0 h12 [a1] := K11.wr W12 (Or.inl (List.mem_of_getElem? (i := 0) rfl))
  have N12 := Fr.snoc X12 N11 g_a1
  have Z12 : n0 ≤ h12.size := (Nat.le_trans Z11 (Nat.le_of_eq (Wr.size W12).symm))
  obtain ⟨T13, h13, X13, e13, W13, st13⟩ := putF X12 hx hZ hown (host := "") (Or.inl (hw _ (List.mem_of_getElem? (i := 29) rfl))) Via.refl e12 (((F_kind.other W10 (Or.inr (slot_ne (Or.inr (hw _ (List.mem_of_getElem? (i := 48) rfl))) (Or.inl (hw _ (List.mem_of_getElem? (i := 45) rfl))) (by decide) (t := (.object "java/lang/String")) (t' := .int) (by decide) (by decide)))).other W11 (Or.inr (slot_ne (Or.inr (hw _ (List.mem_of_getElem? (i := 48) rfl))) (Or.inr (hw _ (List.mem_of_getElem? (i := 46) rfl))) (by decide) (t := (.object "java/lang/String")) (t' := .int) (by decide) (by decide)))).other W12 (Or.inr (slot_ne (Or.inr (hw _ (List.mem_of_getElem? (i := 48) rfl))) (Or.inr (hw _ (List.mem_of_getElem? (i := 47) rfl))) (by decide) (t := (.object "java/lang/String")) (t' := .int) (by decide) (by decide)))) (((E_a1.wr W10).wr W11).wr W12) (Or.inr ⟨(hw _ (List.mem_of_getElem? (i := 48) rfl)), rfl, hnm⟩) (hw _ (List.mem_of_getElem? (i := 38) rfl)) (ty := (.object "java/lang/String")) (by decide) rfl rfl (g := (mkF m 22 #[.val (.ref a1), .val (.int (14 : Int32)), .val (.int (13 : Int32)), .val (.ref a4)] [(.ref a4), (.ref a1)])) rfl rfl (hb hby d2_22)
  have Fw13 := (((F_kind.other W10 (Or.inr (slot_ne (Or.inr (hw _ (List.mem_of_getElem? (i := 48) rfl))) (Or.inl (hw _ (List.mem_of_getElem? (i := 45) rfl))) (by decide) (t := (.object "java/lang/String")) (t' := .int) (by decide) (by decide)))).other W11 (Or.inr (slot_ne (Or.inr (hw _ (List.mem_of_getElem? (i := 48) rfl))) (Or.inr (hw _ (List.mem_of_getElem? (i := 46) rfl))) (by decide) (t := (.object "java/lang/String")) (t' := .int) (by decide) (by decide)))).other W12 (Or.inr (slot_ne (Or.inr (hw _ (List.mem_of_getElem? (i := 48) rfl))) (Or.inr (hw _ (List.mem_of_getElem? (i := 47) rfl))) (by decide) (t := (.object "java/lang/String")) (t' := .int) (by decide) (by decide)))).same W13
  have K13 : Keep h0 h13 [a1] := K12.wr W13 (Or.inl (List.mem_of_getElem? (i := 0) rfl))
  have N13 := Fr.snoc X13 N12 g_a1
  have Z13 : n0 ≤ h13.size := (Nat.le_trans Z12 (Nat.le_of_eq (Wr.size W13).symm))
  obtain ⟨T14, h14, X14, e14, W14, st14⟩ := putF X13 hx hZ hown (host := "") (Or.inl (hw _ (List.mem_of_getElem? (i := 32) rfl))) Via.refl e13 ((((F_maxLength.other W10 (Or.inr (slot_ne (Or.inr (hw _ (List.mem_of_getElem? (i := 49) rfl))) (Or.inl (hw _ (List.mem_of_getElem? (i := 45) rfl))) (by decide) (t := .int) (t' := .int) (by decide) (by decide)))).other W11 (Or.inr (slot_ne (Or.inr (hw _ (List.mem_of_getElem? (i := 49) rfl))) (Or.inr (hw _ (List.mem_of_getElem? (i := 46) rfl))) (by decide) (t := .int) (t' := .int) (by decide) (by decide)))).other W12 (Or.inr (slot_ne (Or.inr (hw _ (List.mem_of_getElem? (i := 49) rfl))) (Or.inr (hw _ (List.mem_of_getElem? (i := 47) rfl))) (by decide) (t := .int) (t' := .int) (by decide) (by decide)))).other W13 (Or.inr (slot_ne (Or.inr (hw _ (List.mem_of_getElem? (i := 49) rfl))) (Or.inr (hw _ (List.mem_of_getElem? (i := 48) rfl))) (by decide) (t := .int) (t' := (.object "java/lang/String")) (by decide) (by decide)))) ((((E_a1.wr W10).wr W11).wr W12).wr W13) (Or.inr ⟨(hw _ (List.mem_of_getElem? (i := 49) rfl)), rfl, hnm⟩) (hw _ (List.mem_of_getElem? (i := 38) rfl)) (ty := .int) (by decide) rfl rfl (g := (mkF m 32 #[.val (.ref a1), .val (.int (14 : Int32)), .val (.int (13 : Int32)), .val (.ref a4)] [(.int (((2147483639 : Int32) / (14 : Int32)) * (14 : Int32))), (.ref a1)])) rfl rfl (hb hby d2_32)
  have Fw14 := ((((F_maxLength.other W10 (Or.inr (slot_ne (Or.inr (hw _ (List.mem_of_getElem? (i := 49) rfl))) (Or.inl (hw _ (List.mem_of_getElem? (i := 45) rfl))) (by decide) (t := .int) (t' := .int) (by decide) (by decide)))).other W11 (Or.inr (slot_ne (Or.inr (hw _ (List.mem_of_getElem? (i := 49) rfl))) (Or.inr (hw _ (List.mem_of_getElem? (i := 46) rfl))) (by decide) (t := .int) (t' := .int) (by decide) (by decide)))).other W12 (Or.inr (slot_ne (Or.inr (hw _ (List.mem_of_getElem? (i := 49) rfl))) (Or.inr (hw _ (List.mem_of_getElem? (i := 47) rfl))) (by decide) (t := .int) (t' := .int) (by decide) (by decide)))).other W13 (Or.inr (slot_ne (Or.inr (hw _ (List.mem_of_getElem? (i := 49) rfl))) (Or.inr (hw _ (List.mem_of_getElem? (i := 48) rfl))) (by decide) (t := .int) (t' := (.object "java/lang/String")) (by decide) (by decide)))).same W14
  have K14 : Keep h0 h14 [a1] := K13.wr W14 (Or.inl (List.mem_of_getElem? (i := 0) rfl))
  have N14 := Fr.snoc X14 N13 g_a1
  have Z14 : n0 ≤ h14.size := (Nat.le_trans Z13 (Nat.le_of_eq (Wr.size W14).symm))
  obtain ⟨T15, h15, k15, X15, e15, E15, A15, st15⟩ := newP X14 hx hZ (hw _ (List.mem_of_getElem? (i := 34) rfl)) e14 (g := (mkF m 40 #[.val (.ref a1), .val (.int (14 : Int32)), .val (.int (13 : Int32)), .val (.ref a4)] [(.int (224 : Int32)), (.ref a1)])) rfl (hb hby d2_40) rfl (by decide) (cap := 224) (by decide) (by decide) (by decide) (by decide)
  obtain ⟨b15, g15⟩ : ∃ z, z = h14.size := ⟨_, rfl⟩
  rw [← g15] at A15 st15
  have g_b15 : n0 ≤ b15 := Nat.le_trans Z14 (Nat.le_of_eq g15.symm)
  have sz_b15 : h0.size ≤ b15 := Nat.le_trans K14.1 (Nat.le_of_eq g15.symm)
  have V15 := (Arv.new A15 (by decide)).arh
  have K15 : Keep h0 h15 [a1] := K14.ext E15
  have Z15 : n0 ≤ h15.size := (Nat.le_trans Z14 E15.1)
  obtain ⟨T16, h16, X16, e16, W16, st16⟩ := putF X15 hx hZ hown (host := "") (Or.inl (hw _ (List.mem_of_getElem? (i := 35) rfl))) Via.refl e15 ((((((F_fields.other W10 (Or.inr (slot_ne (Or.inl (hw _ (List.mem_of_getElem? (i := 50) rfl))) (Or.inl (hw _ (List.mem_of_getElem? (i := 45) rfl))) (by decide) (t := (.array .long)) (t' := .int) (by decide) (by decide)))).other W11 (Or.inr (slot_ne (Or.inl (hw _ (List.mem_of_getElem? (i := 50) rfl))) (Or.inr (hw _ (List.mem_of_getElem? (i := 46) rfl))) (by decide) (t := (.array .long)) (t' := .int) (by decide) (by decide)))).other W12 (Or.inr (slot_ne (Or.inl (hw _ (List.mem_of_getElem? (i := 50) rfl))) (Or.inr (hw _ (List.mem_of_getElem? (i := 47) rfl))) (by decide) (t := (.array .long)) (t' := .int) (by decide) (by decide)))).other W13 (Or.inr (slot_ne (Or.inl (hw _ (List.mem_of_getElem? (i := 50) rfl))) (Or.inr (hw _ (List.mem_of_getElem? (i := 48) rfl))) (by decide) (t := (.array .long)) (t' := (.object "java/lang/String")) (by decide) (by decide)))).other W14 (Or.inr (slot_ne (Or.inl (hw _ (List.mem_of_getElem? (i := 50) rfl))) (Or.inr (hw _ (List.mem_of_getElem? (i := 49) rfl))) (by decide) (t := (.array .long)) (t' := .int) (by decide) (by decide)))).ext E15) ((((((E_a1.wr W10).wr W11).wr W12).wr W13).wr W14).ext E15) (Or.inl (hw _ (List.mem_of_getElem? (i := 50) rfl))) (hw _ (List.mem_of_getElem? (i := 38) rfl)) (ty := (.array .long)) (by decide) rfl rfl (g := (mkF m 42 #[.val (.ref a1), .val (.int (14 : Int32)), .val (.int (13 : Int32)), .val (.ref a4)] [(.ref b15), (.ref a1)])) rfl rfl (hb hby d2_42)
  have Fw16 := ((((((F_fields.other W10 (Or.inr (slot_ne (Or.inl (hw _ (List.mem_of_getElem? (i := 50) rfl))) (Or.inl (hw _ (List.mem_of_getElem? (i := 45) rfl))) (by decide) (t := (.array .long)) (t' := .int) (by decide) (by decide)))).other W11 (Or.inr (slot_ne (Or.inl (hw _ (List.mem_of_getElem? (i := 50) rfl))) (Or.inr (hw _ (List.mem_of_getElem? (i := 46) rfl))) (by decide) (t := (.array .long)) (t' := .int) (by decide) (by decide)))).other W12 (Or.inr (slot_ne (Or.inl (hw _ (List.mem_of_getElem? (i := 50) rfl))) (Or.inr (hw _ (List.mem_of_getElem? (i := 47) rfl))) (by decide) (t := (.array .long)) (t' := .int) (by decide) (by decide)))).other W13 (Or.inr (slot_ne (Or.inl (hw _ (List.mem_of_getElem? (i := 50) rfl))) (Or.inr (hw _ (List.mem_of_getElem? (i := 48) rfl))) (by decide) (t := (.array .long)) (t' := (.object "java/lang/String")) (by decide) (by decide)))).other W14 (Or.inr (slot_ne (Or.inl (hw _ (List.mem_of_getElem? (i := 50) rfl))) (Or.inr (hw _ (List.mem_of_getElem? (i := 49) rfl))) (by decide) (t := (.array .long)) (t' := .int) (by decide) (by decide)))).ext E15).same W16
  have K16 : Keep h0 h16 [a1] := K15.wr W16 (Or.inl (List.mem_of_getElem? (i := 0) rfl))
  have N16 := Fr.snoc X16 N14 g_a1
  have Z16 : n0 ≤ h16.size := (Nat.le_trans Z15 (Nat.le_of_eq (Wr.size W16).symm))
  obtain ⟨fs, hr, hrun, hended, hW, hsame⟩ := X16.leave (v := none) (fun _ => rfl)
  refine ⟨_, _, pw0 _ ?_, hrun, hended, _, _, rfl, ?_, ⟨_, rfl⟩, hW, hsame.mono (by decide) (by decide)⟩
  · skip
    refine XS.aloadN X0.here hx rfl (hb hby d2_0) rfl rfl ?_
    show Steps p.tables e below (s₁.setTop (mkF m 1 #[.val (.ref a1), .val (.int (14 : Int32)), .val (.int (13 : Int32)), .val (.ref a4)] [(.ref a1)])) _
    refine st9 _ ?_
    show Steps p.tables e below (T9.setTop (mkF m 4 #[.val (.ref a1), .val (.int (14 : Int32)), .val (.int (13 : Int32)), .val (.ref a4)] [])) _
    refine XS.aloadN X9.here hx rfl (hb hby d2_4) rfl rfl ?_
    show Steps p.tables e below (T9.setTop (mkF m 5 #[.val (.ref a1), .val (.int (14 : Int32)), .val (.int (13 : Int32)), .val (.ref a4)] [(.ref a1)])) _
    refine X9.ldcInt hx hown (mvT hZ (hw _ (List.mem_of_getElem? (i := 22) rfl))) (g := (mkF m 5 #[.val (.ref a1), .val (.int (14 : Int32)), .val (.int (13 : Int32)), .val (.ref a4)] [(.ref a1)])) rfl (hb hby d2_5) _ ?_
    show Steps p.tables e below (T9.setTop (mkF m 7 #[.val (.ref a1), .val (.int (14 : Int32)), .val (.int (13 : Int32)), .val (.ref a4)] [(.int (-2147483648 : Int32)), (.ref a1)])) _
    refine st10 _ ?_
    show Steps p.tables e below (T10.setTop (mkF m 10 #[.val (.ref a1), .val (.int (14 : Int32)), .val (.int (13 : Int32)), .val (.ref a4)] [])) _
    refine XS.aloadN X10.here hx rfl (hb hby d2_10) rfl rfl ?_
    show Steps p.tables e below (T10.setTop (mkF m 11 #[.val (.ref a1), .val (.int (14 : Int32)), .val (.int (13 : Int32)), .val (.ref a4)] [(.ref a1)])) _
    refine XS.iloadN X10.here hx rfl (hb hby d2_11) rfl ?_
    show Steps p.tables e below (T10.setTop (mkF m 12 #[.val (.ref a1), .val (.int (14 : Int32)), .val (.int (13 : Int32)), .val (.ref a4)] [(.int (14 : Int32)), (.ref a1)])) _
    refine st11 _ ?_
    show Steps p.tables e below (T11.setTop (mkF m 15 #[.val (.ref a1), .val (.int (14 : Int32)), .val (.int (13 : Int32)), .val (.ref a4)] [])) _
    refine XS.aloadN X11.here hx rfl (hb hby d2_15) rfl rfl ?_
    show Steps p.tables e below (T11.setTop (mkF m 16 #[.val (.ref a1), .val (.int (14 : Int32)), .val (.int (13 : Int32)), .val (.ref a4)] [(.ref a1)])) _
    refine XS.iloadN X11.here hx rfl (hb hby d2_16) rfl ?_
    show Steps p.tables e below (T11.setTop (mkF m 17 #[.val (.ref a1), .val (.int (14 : Int32)), .val (.int (13 : Int32)), .val (.ref a4)] [(.int (13 : Int32)), (.ref a1)])) _
    refine st12 _ ?_
    show Steps p.tables e below (T12.setTop (mkF m 20 #[.val (.ref a1), .val (.int (14 : Int32)), .val (.int (13 : Int32)), .val (.ref a4)] [])) _
    refine XS.aloadN X12.here hx rfl (hb hby d2_20) rfl rfl ?_
    show Steps p.tables e below (T12.setTop (mkF m 21 #[.val (.ref a1), .val (.int (14 : Int32)), .val (.int (13 : Int32)), .val (.ref a4)] [(.ref a1)])) _
    refine XS.aloadN X12.here hx rfl (hb hby d2_21) rfl rfl ?_
    show Steps p.tables e below (T12.setTop (mkF m 22 #[.val (.ref a1), .val (.int (14 : Int32)), .val (.int (13 : Int32)), .val (.ref a4)] [(.ref a4), (.ref a1)])) _
    refine st13 _ ?_
    show Steps p.tables e below (T13.setTop (mkF m 25 #[.val (.ref a1), .val (.int (14 : Int32)), .val (.int (13 : Int32)), .val (.ref a4)] [])) _
    refine XS.aloadN X13.here hx rfl (hb hby d2_25) rfl rfl ?_
    show Steps p.tables e below (T13.setTop (mkF m 26 #[.val (.ref a1), .val (.int (14 : Int32)), .val (.int (13 : Int32)), .val (.ref a4)] [(.ref a1)])) _
    refine X13.ldcInt hx hown (mvT hZ (hw _ (List.mem_of_getElem? (i := 31) rfl))) (g := (mkF m 26 #[.val (.ref a1), .val (.int (14 : Int32)), .val (.int (13 : Int32)), .val (.ref a4)] [(.ref a1)])) rfl (hb hby d2_26) _ ?_
    show Steps p.tables e below (T13.setTop (mkF m 28 #[.val (.ref a1), .val (.int (14 : Int32)), .val (.int (13 : Int32)), .val (.ref a4)] [(.int (2147483639 : Int32)), (.ref a1)])) _
    refine XS.iloadN X13.here hx rfl (hb hby d2_28) rfl ?_
    show Steps p.tables e below (T13.setTop (mkF m 29 #[.val (.ref a1), .val (.int (14 : Int32)), .val (.int (13 : Int32)), .val (.ref a4)] [(.int (14 : Int32)), (.int (2147483639 : Int32)), (.ref a1)])) _
    refine XS.idiv X13.here hx rfl (hb hby d2_29) rfl (by decide) ?_
    show Steps p.tables e below (T13.setTop (mkF m 30 #[.val (.ref a1), .val (.int (14 : Int32)), .val (.int (13 : Int32)), .val (.ref a4)] [(.int ((2147483639 : Int32) / (14 : Int32))), (.ref a1)])) _
    refine XS.iloadN X13.here hx rfl (hb hby d2_30) rfl ?_
    show Steps p.tables e below (T13.setTop (mkF m 31 #[.val (.ref a1), .val (.int (14 : Int32)), .val (.int (13 : Int32)), .val (.ref a4)] [(.int (14 : Int32)), (.int ((2147483639 : Int32) / (14 : Int32))), (.ref a1)])) _
    refine XS.imul X13.here hx rfl (hb hby d2_31) rfl ?_
    show Steps p.tables e below (T13.setTop (mkF m 32 #[.val (.ref a1), .val (.int (14 : Int32)), .val (.int (13 : Int32)), .val (.ref a4)] [(.int (((2147483639 : Int32) / (14 : Int32)) * (14 : Int32))), (.ref a1)])) _
    refine st14 _ ?_
    show Steps p.tables e below (T14.setTop (mkF m 35 #[.val (.ref a1), .val (.int (14 : Int32)), .val (.int (13 : Int32)), .val (.ref a4)] [])) _
    refine XS.aloadN X14.here hx rfl (hb hby d2_35) rfl rfl ?_
    show Steps p.tables e below (T14.setTop (mkF m 36 #[.val (.ref a1), .val (.int (14 : Int32)), .val (.int (13 : Int32)), .val (.ref a4)] [(.ref a1)])) _
    refine XS.bipush X14.here hx rfl (hb hby d2_36) ?_
    show Steps p.tables e below (T14.setTop (mkF m 38 #[.val (.ref a1), .val (.int (14 : Int32)), .val (.int (13 : Int32)), .val (.ref a4)] [(.int (16 : Int32)), (.ref a1)])) _
    refine XS.iloadN X14.here hx rfl (hb hby d2_38) rfl ?_
    show Steps p.tables e below (T14.setTop (mkF m 39 #[.val (.ref a1), .val (.int (14 : Int32)), .val (.int (13 : Int32)), .val (.ref a4)] [(.int (14 : Int32)), (.int (16 : Int32)), (.ref a1)])) _
    refine XS.imul X14.here hx rfl (hb hby d2_39) rfl ?_
    show Steps p.tables e below (T14.setTop (mkF m 40 #[.val (.ref a1), .val (.int (14 : Int32)), .val (.int (13 : Int32)), .val (.ref a4)] [(.int (224 : Int32)), (.ref a1)])) _
    refine st15 _ ?_
    show Steps p.tables e below (T15.setTop (mkF m 42 #[.val (.ref a1), .val (.int (14 : Int32)), .val (.int (13 : Int32)), .val (.ref a4)] [(.ref b15), (.ref a1)])) _
    refine st16 _ ?_
    show Steps p.tables e below (T16.setTop (mkF m 45 #[.val (.ref a1), .val (.int (14 : Int32)), .val (.int (13 : Int32)), .val (.ref a4)] [])) _
    exact X16.returnOut hx Bd.returns (hb hby d2_45) hr
  · show Q_2l Z a1 a4 h0 n0 _ T16.heap _
    rw [e16]
    exact ⟨rfl, N16, K16, (((((((E_a1.wr W10).wr W11).wr W12).wr W13).wr W14).ext E15).wr W16), ((((((Fw10.other W11 (Or.inr (slot_ne (Or.inl (hw _ (List.mem_of_getElem? (i := 45) rfl))) (Or.inr (hw _ (List.mem_of_getElem? (i := 46) rfl))) (by decide) (t := .int) (t' := .int) (by decide) (by decide)))).other W12 (Or.inr (slot_ne (Or.inl (hw _ (List.mem_of_getElem? (i := 45) rfl))) (Or.inr (hw _ (List.mem_of_getElem? (i := 47) rfl))) (by decide) (t := .int) (t' := .int) (by decide) (by decide)))).other W13 (Or.inr (slot_ne (Or.inl (hw _ (List.mem_of_getElem? (i := 45) rfl))) (Or.inr (hw _ (List.mem_of_getElem? (i := 48) rfl))) (by decide) (t := .int) (t' := (.object "java/lang/String")) (by decide) (by decide)))).other W14 (Or.inr (slot_ne (Or.inl (hw _ (List.mem_of_getElem? (i := 45) rfl))) (Or.inr (hw _ (List.mem_of_getElem? (i := 49) rfl))) (by decide) (t := .int) (t' := .int) (by decide) (by decide)))).ext E15).other W16 (Or.inr (slot_ne (Or.inl (hw _ (List.mem_of_getElem? (i := 45) rfl))) (Or.inl (hw _ (List.mem_of_getElem? (i := 50) rfl))) (by decide) (t := .int) (t' := (.array .long)) (by decide) (by decide)))), (((((Fw11.other W12 (Or.inr (slot_ne (Or.inr (hw _ (List.mem_of_getElem? (i := 46) rfl))) (Or.inr (hw _ (List.mem_of_getElem? (i := 47) rfl))) (by decide) (t := .int) (t' := .int) (by decide) (by decide)))).other W13 (Or.inr (slot_ne (Or.inr (hw _ (List.mem_of_getElem? (i := 46) rfl))) (Or.inr (hw _ (List.mem_of_getElem? (i := 48) rfl))) (by decide) (t := .int) (t' := (.object "java/lang/String")) (by decide) (by decide)))).other W14 (Or.inr (slot_ne (Or.inr (hw _ (List.mem_of_getElem? (i := 46) rfl))) (Or.inr (hw _ (List.mem_of_getElem? (i := 49) rfl))) (by decide) (t := .int) (t' := .int) (by decide) (by decide)))).ext E15).other W16 (Or.inr (slot_ne (Or.inr (hw _ (List.mem_of_getElem? (i := 46) rfl))) (Or.inl (hw _ (List.mem_of_getElem? (i := 50) rfl))) (by decide) (t := .int) (t' := (.array .long)) (by decide) (by decide)))), (((((((F_inUse.other W10 (Or.inr (slot_ne (Or.inl (hw _ (List.mem_of_getElem? (i := 65) rfl))) (Or.inl (hw _ (List.mem_of_getElem? (i := 45) rfl))) (by decide) (t := .int) (t' := .int) (by decide) (by decide)))).other W11 (Or.inr (slot_ne (Or.inl (hw _ (List.mem_of_getElem? (i := 65) rfl))) (Or.inr (hw _ (List.mem_of_getElem? (i := 46) rfl))) (by decide) (t := .int) (t' := .int) (by decide) (by decide)))).other W12 (Or.inr (slot_ne (Or.inl (hw _ (List.mem_of_getElem? (i := 65) rfl))) (Or.inr (hw _ (List.mem_of_getElem? (i := 47) rfl))) (by decide) (t := .int) (t' := .int) (by decide) (by decide)))).other W13 (Or.inr (slot_ne (Or.inl (hw _ (List.mem_of_getElem? (i := 65) rfl))) (Or.inr (hw _ (List.mem_of_getElem? (i := 48) rfl))) (by decide) (t := .int) (t' := (.object "java/lang/String")) (by decide) (by decide)))).other W14 (Or.inr (slot_ne (Or.inl (hw _ (List.mem_of_getElem? (i := 65) rfl))) (Or.inr (hw _ (List.mem_of_getElem? (i := 49) rfl))) (by decide) (t := .int) (t' := .int) (by decide) (by decide)))).ext E15).other W16 (Or.inr (slot_ne (Or.inl (hw _ (List.mem_of_getElem? (i := 65) rfl))) (Or.inl (hw _ (List.mem_of_getElem? (i := 50) rfl))) (by decide) (t := .int) (t' := (.array .long)) (by decide) (by decide)))), (((((((F_end.other W10 (Or.inr (slot_ne (Or.inl (hw _ (List.mem_of_getElem? (i := 67) rfl))) (Or.inl (hw _ (List.mem_of_getElem? (i := 45) rfl))) (by decide) (t := .int) (t' := .int) (by decide) (by decide)))).other W11 (Or.inr (slot_ne (Or.inl (hw _ (List.mem_of_getElem? (i := 67) rfl))) (Or.inr (hw _ (List.mem_of_getElem? (i := 46) rfl))) (by decide) (t := .int) (t' := .int) (by decide) (by decide)))).other W12 (Or.inr (slot_ne (Or.inl (hw _ (List.mem_of_getElem? (i := 67) rfl))) (Or.inr (hw _ (List.mem_of_getElem? (i := 47) rfl))) (by decide) (t := .int) (t' := .int) (by decide) (by decide)))).other W13 (Or.inr (slot_ne (Or.inl (hw _ (List.mem_of_getElem? (i := 67) rfl))) (Or.inr (hw _ (List.mem_of_getElem? (i := 48) rfl))) (by decide) (t := .int) (t' := (.object "java/lang/String")) (by decide) (by decide)))).other W14 (Or.inr (slot_ne (Or.inl (hw _ (List.mem_of_getElem? (i := 67) rfl))) (Or.inr (hw _ (List.mem_of_getElem? (i := 49) rfl))) (by decide) (t := .int) (t' := .int) (by decide) (by decide)))).ext E15).other W16 (Or.inr (slot_ne (Or.inl (hw _ (List.mem_of_getElem? (i := 67) rfl))) (Or.inl (hw _ (List.mem_of_getElem? (i := 50) rfl))) (by decide) (t := .int) (t' := (.array .long)) (by decide) (by decide)))), b15, _, sz_b15, Fw16, (V15.other W16 (Ne.symm (Nat.ne_of_lt (Nat.lt_of_lt_of_le (((((E_a1.wr W10).wr W11).wr W12).wr W13).wr W14).lt (Nat.le_of_eq g15.symm)))))⟩
theorem d1_0 : decode prog_7_method_1_code 0 = .ok (.aload_n 0, 1) := by decide +kernel
theorem d1_1 : decode prog_7_method_1_code 1 = .ok (.bipush 9, 2) := by decide +kernel
theorem d1_3 : decode prog_7_method_1_code 3 = .ok (.iconst 1, 1) := by decide +kernel
theorem d1_4 : decode prog_7_method_1_code 4 = .ok (.ldc 3, 2) := by decide +kernel
theorem d1_6 : decode prog_7_method_1_code 6 = .ok (.invokespecial 5, 3) := by decide +kernel
theorem d1_9 : decode prog_7_method_1_code 9 = .ok (.return_, 1) := by decide +kernel
theorem ef_1 (m : MethodId) (x0 : Addr) : entryFrame m #[(.ref x0)] 1 = mkF m 0 #[.val (.ref x0)] [] := by first | (simp [entryFrame, mkF, argsToLocals, Value.category]; done) | rfl
theorem pn_com_example_matchwright_matchwright_book_OrderPool : plainName "com/example/matchwright/matchwright/book/OrderPool" = true := by first | (simp [plainName, overriddenIn]; done) | decide +kernel
def Q_1 (Z : State) (a1 : Addr) (h0 : Heap) (n0 : Nat) (v : Option Value) (h : Heap) (L : List Loc) : Prop := v = none ∧ Fr n0 L ∧ Keep h0 h [a1] ∧ Exa Z h a1 "com/example/matchwright/matchwright/book/OrderPool"
set_option maxRecDepth 65536 in
set_option maxHeartbeats 40000000 in
theorem rm_1 (l : Launch) (Z : State) (a0 : Array Value) (hw : ∀ d ∈ tables_1, d.before a0 Z = true) (ws : List Jvm.Cond) (a1 : Addr) (h0 : Heap) (n0 : Nat) (Z0 : n0 ≤ h0.size) (E_a1 : Exa Z h0 a1 "com/example/matchwright/matchwright/book/OrderPool") (F_spares : Fld Z h0 a1 "com/example/matchwright/matchwright/book/RecordPool" "spares" "I" (.int (0 : Int32))) (F_fieldsPerRecord : Fld Z h0 a1 "com/example/matchwright/matchwright/book/RecordPool" "fieldsPerRecord" "I" (.int (0 : Int32))) (F_spareLink : Fld Z h0 a1 "com/example/matchwright/matchwright/book/RecordPool" "spareLink" "I" (.int (0 : Int32))) (F_kind : Fld Z h0 a1 "com/example/matchwright/matchwright/book/RecordPool" "kind" "Ljava/lang/String;" .null) (F_maxLength : Fld Z h0 a1 "com/example/matchwright/matchwright/book/RecordPool" "maxLength" "I" (.int (0 : Int32))) (F_fields : Fld Z h0 a1 "com/example/matchwright/matchwright/book/RecordPool" "fields" "[J" .null) (g_a1 : n0 ≤ a1) :
    MetFree l (⟨"com/example/matchwright/matchwright/book/OrderPool", "<init>", "()V"⟩ : MethodName) (head1 (Jvm.Cond.code (⟨"com/example/matchwright/matchwright/book/OrderPool", "<init>", "()V"⟩ : MethodName) prog_7_method_1_code 1 none :: ws) ({ frames := 2, cells := 3, slots := 204, locals := 27 } : Room)) (fun a U => a = #[(.ref a1)] ∧ Z.Warmed39 U.vm ∧ U.heap = h0) (fun _ _ _ _ _ => True) (fun _ U o U' => ∃ v L, o = .returned v ∧ Q_1 Z a1 h0 n0 v U'.heap L ∧ ReturnedEndW U o U' L ({ frames := 2, cells := 3, slots := 204, locals := 27 } : Room).cells ({ frames := 2, cells := 3, slots := 204, locals := 27 } : Room).slots) := by
  refine MetFree.of_bodySF (plainFor_of_name pn_com_example_matchwright_matchwright_book_OrderPool) hisR ?_
  intro p e s m args below meth c s₁ Bd hml0 hP hK
  obtain ⟨rfl, hZ, hh⟩ := hP
  have hx := Bd.exec
  have hby := Bd.bytes
  have hml : c.maxLocals = 1 := hml0
  have hown : s.vm.findClass "com/example/matchwright/matchwright/book/OrderPool" = some m.cls := findClass_of_methodNamed Bd.named
  have hnm := (name_of_methodNamed Bd.named Bd.method).1
  have X0 : Stand p l e ({ frames := 2, cells := 3, slots := 204, locals := 27 } : Room) s m #[(.ref a1)] below meth c s₁ [] 0 0 := Stand.of_body Bd
  have e0 : s₁.heap = h0 := by rw [← hh, Bd.state]; rfl
  have N0 := Fr.nil n0
  have pw0 : ∀ t, Steps p.tables e below (s₁.setTop (mkF m 0 #[.val (.ref a1)] [])) t → Steps p.tables e below (s₁.setTop (entryFrame m #[(.ref a1)] 1)) t := fun t k => castTop (ef_1 m a1) k
  have K0 : Keep h0 h0 [a1] := Keep.refl h0 [a1]
  have hS0 : s.Since s.vm h0.size := (State.WarmedH.refl s).since _
  obtain ⟨sa17, T17, h17, kk17, X17, e17, E17, hS17, hk17, hZ, hown, st17⟩ := ldcS (s := s) (vm0 := s.vm) X0 hx hZ hown (hw _ (List.mem_of_getElem? (i := 6) rfl)) (own_str hw) e0 hS0 (Nat.le_refl h0.size) (g := (mkF m 4 #[.val (.ref a1)] [(.int (1 : Int32)), (.int (9 : Int32)), (.ref a1)])) rfl (hb hby d1_4) (n := 56) (by decide) (by decide) (by decide) (by decide)
  have K17 : Keep h0 h17 [a1] := K0.ext E17
  have Z17 : n0 ≤ h17.size := (Nat.le_trans Z0 E17.1)
  obtain ⟨_, _, ⟨T18, L18, k18, n18⟩, -, X18, ⟨Lc18, hQ18, l18, y18, z18⟩, st18⟩ := X17.specialBack hx (y := (⟨"com/example/matchwright/matchwright/book/RecordPool", "<init>", "(IILjava/lang/String;)V"⟩ : MethodName)) rfl hown (mvT hZ (hw _ (List.mem_of_getElem? (i := 14) rfl))) (mvT hZ (hw _ (List.mem_of_getElem? (i := 15) rfl))) (mvT hZ (hw _ (List.mem_of_getElem? (i := 18) rfl))) (by decide) (backOf (W := 0) (rm_2o l Z a0 hw [] a1 sa17 h17 n0 Z17 (E_a1.ext E17) (F_spares.ext E17) (F_fieldsPerRecord.ext E17) (F_spareLink.ext E17) (F_kind.ext E17) (F_maxLength.ext E17) (F_fields.ext E17) g_a1) hZ (hw _ (List.mem_of_getElem? (i := 18) rfl)) (hw _ (List.mem_of_getElem? (i := 17) rfl)) (by decide) (by decide)) (g := (mkF m 6 #[.val (.ref a1)] [(.ref sa17), (.int (1 : Int32)), (.int (9 : Int32)), (.ref a1)])) rfl (by rw [hml]; rfl) (Steps.refl _) (a := a1) (argsL := [(.int (9 : Int32)), (.int (1 : Int32)), (.ref sa17)]) (rest := []) (lenOf pd__IILjava_lang_String__V rfl) rfl (by show 2 * 0 + _ ≤ _; exact Nat.le_of_eq rfl) (hb hby d1_6) (fun _ _ => ⟨rfl, e17, (by decide : 2 + 1 ≤ _), (by decide : 60 + 144 ≤ _)⟩)
  dsimp only [Pt.U, Pt.locs, Pt.cells, Pt.slots] at X18 l18 y18 z18 st18 hQ18
  subst l18 y18 z18
  obtain ⟨rfl, N18q, K18q, E18q⟩ := hQ18
  have N18 := Fr.app N0 N18q
  have K18 : Keep h0 T18.heap [a1] := K17.trans K18q (allS (P := fun x => x ∈ [a1] ∨ h0.size ≤ x) (Or.inl (List.mem_of_getElem? (i := 0) rfl)) all0)
  have Z18 : n0 ≤ T18.heap.size := (Nat.le_trans Z17 K18q.1)
  have ks18 : _ ≤ T18.heap.size := (Nat.le_trans hk17 K18q.1)
  obtain ⟨fs, hr, hrun, hended, hRE⟩ := X18.leaveW hS17 ks18 (v := none) (fun _ => rfl)
  refine ⟨_, _, pw0 _ ?_, hrun, hended, _, _, rfl, ?_, hRE.1, hRE.2.1, hRE.2.2.1, hRE.2.2.2.mono (by decide) (by decide)⟩
  · skip
    refine XS.aloadN X0.here hx rfl (hb hby d1_0) rfl rfl ?_
    show Steps p.tables e below (s₁.setTop (mkF m 1 #[.val (.ref a1)] [(.ref a1)])) _
    refine XS.bipush X0.here hx rfl (hb hby d1_1) ?_
    show Steps p.tables e below (s₁.setTop (mkF m 3 #[.val (.ref a1)] [(.int (9 : Int32)), (.ref a1)])) _
    refine XS.iconst X0.here hx rfl (hb hby d1_3) ?_
    show Steps p.tables e below (s₁.setTop (mkF m 4 #[.val (.ref a1)] [(.int (1 : Int32)), (.int (9 : Int32)), (.ref a1)])) _
    refine st17 _ ?_
    show Steps p.tables e below (T17.setTop (mkF m 6 #[.val (.ref a1)] [(.ref sa17), (.int (1 : Int32)), (.int (9 : Int32)), (.ref a1)])) _
    refine st18.trans ?_
    show Steps p.tables e below (T18.setTop (mkF m 9 #[.val (.ref a1)] [])) _
    exact X18.returnOut hx Bd.returns (hb hby d1_9) hr
  · show Q_1 Z a1 h0 n0 _ T18.heap _
    exact ⟨rfl, N18, K18, E18q⟩
theorem own_fldSome {Z : State} {h h' : Heap} {a : Addr} {C n d : String} {v : Value} {ws : List Addr} (F : Fld Z h a C n d v) (K : Keep h h' ws) : ∃ w, Fld Z h' a C n d w := by
  obtain ⟨cell, cf, k, i, f, h1, h2, h3, h4, h5, h6, h7⟩ := F
  obtain ⟨c', q, r1, r2, r3⟩ := K.2.2 a cell h1
  have hlt : f.slot < c'.slots.size := by rw [r3]; exact (Array.getElem?_eq_some_iff.mp h7).1
  exact ⟨c'.slots[f.slot], c', cf, k, i, f, q, h2, h3, by rw [r2]; exact h4, by rw [r2]; exact h5, by rw [r1]; exact h6, Array.getElem?_eq_getElem hlt⟩
theorem d4_0 : decode prog_4_method_1_code 0 = .ok (.aload_n 0, 1) := by decide +kernel
theorem d4_1 : decode prog_4_method_1_code 1 = .ok (.bipush 14, 2) := by decide +kernel
theorem d4_3 : decode prog_4_method_1_code 3 = .ok (.bipush 13, 2) := by decide +kernel
theorem d4_5 : decode prog_4_method_1_code 5 = .ok (.ldc 3, 2) := by decide +kernel
theorem d4_7 : decode prog_4_method_1_code 7 = .ok (.invokespecial 5, 3) := by decide +kernel
theorem d4_10 : decode prog_4_method_1_code 10 = .ok (.aload_n 0, 1) := by decide +kernel
theorem d4_11 : decode prog_4_method_1_code 11 = .ok (.aload_n 1, 1) := by decide +kernel
theorem d4_12 : decode prog_4_method_1_code 12 = .ok (.putfield 11, 3) := by decide +kernel
theorem d4_15 : decode prog_4_method_1_code 15 = .ok (.return_, 1) := by decide +kernel
theorem ef_4 (m : MethodId) (x0 : Addr) (x1 : Addr) : entryFrame m #[(.ref x0), (.ref x1)] 2 = mkF m 0 #[.val (.ref x0), .val (.ref x1)] [] := by first | (simp [entryFrame, mkF, argsToLocals, Value.category]; done) | rfl
theorem pn_com_example_matchwright_matchwright_book_LevelPool : plainName "com/example/matchwright/matchwright/book/LevelPool" = true := by first | (simp [plainName, overriddenIn]; done) | decide +kernel
def Q_4 (Z : State) (a1 : Addr) (a2 : Addr) (h0 : Heap) (n0 : Nat) (v : Option Value) (h : Heap) (L : List Loc) : Prop := v = none ∧ Fr n0 L ∧ Keep h0 h [a1] ∧ Exa Z h a1 "com/example/matchwright/matchwright/book/LevelPool" ∧ Fld Z h a1 "com/example/matchwright/matchwright/book/RecordPool" "spares" "I" (.int (-2147483648 : Int32)) ∧ Fld Z h a1 "com/example/matchwright/matchwright/book/RecordPool" "fieldsPerRecord" "I" (.int (14 : Int32)) ∧ Fld Z h a1 "com/example/matchwright/matchwright/book/RecordPool" "inUse" "I" (.int (0 : Int32)) ∧ Fld Z h a1 "com/example/matchwright/matchwright/book/RecordPool" "end" "I" (.int (0 : Int32)) ∧ ∃ (fa : Addr) (kk : ClassId), h0.size ≤ fa ∧ Fld Z h a1 "com/example/matchwright/matchwright/book/RecordPool" "fields" "[J" (.ref fa) ∧ Arh Z h fa kk .long (224 : Int32) [] [] (.long (0 : Int64))
set_option maxRecDepth 65536 in
set_option maxHeartbeats 40000000 in
theorem rm_4 (l : Launch) (Z : State) (a0 : Array Value) (hw : ∀ d ∈ tables_1, d.before a0 Z = true) (ws : List Jvm.Cond) (a1 : Addr) (a2 : Addr) (h0 : Heap) (n0 : Nat) (Z0 : n0 ≤ h0.size) (E_a1 : Exa Z h0 a1 "com/example/matchwright/matchwright/book/LevelPool") (F_spares : Fld Z h0 a1 "com/example/matchwright/matchwright/book/RecordPool" "spares" "I" (.int (0 : Int32))) (F_fieldsPerRecord : Fld Z h0 a1 "com/example/matchwright/matchwright/book/RecordPool" "fieldsPerRecord" "I" (.int (0 : Int32))) (F_spareLink : Fld Z h0 a1 "com/example/matchwright/matchwright/book/RecordPool" "spareLink" "I" (.int (0 : Int32))) (F_kind : Fld Z h0 a1 "com/example/matchwright/matchwright/book/RecordPool" "kind" "Ljava/lang/String;" .null) (F_maxLength : Fld Z h0 a1 "com/example/matchwright/matchwright/book/RecordPool" "maxLength" "I" (.int (0 : Int32))) (F_fields : Fld Z h0 a1 "com/example/matchwright/matchwright/book/RecordPool" "fields" "[J" .null) (F_inUse : Fld Z h0 a1 "com/example/matchwright/matchwright/book/RecordPool" "inUse" "I" (.int (0 : Int32))) (F_end : Fld Z h0 a1 "com/example/matchwright/matchwright/book/RecordPool" "end" "I" (.int (0 : Int32))) (g_a1 : n0 ≤ a1) (F_orders : Fld Z h0 a1 "com/example/matchwright/matchwright/book/LevelPool" "orders" "Lcom/example/matchwright/matchwright/book/OrderPool;" .null) :
    MetFree l (⟨"com/example/matchwright/matchwright/book/LevelPool", "<init>", "(Lcom/example/matchwright/matchwright/book/OrderPool;)V"⟩ : MethodName) (head1 (Jvm.Cond.code (⟨"com/example/matchwright/matchwright/book/LevelPool", "<init>", "(Lcom/example/matchwright/matchwright/book/OrderPool;)V"⟩ : MethodName) prog_4_method_1_code 2 none :: ws) ({ frames := 2, cells := 3, slots := 364, locals := 27 } : Room)) (fun a U => a = #[(.ref a1), (.ref a2)] ∧ Z.Warmed39 U.vm ∧ U.heap = h0) (fun _ _ _ _ _ => True) (fun _ U o U' => ∃ v L, o = .returned v ∧ Q_4 Z a1 a2 h0 n0 v U'.heap L ∧ ReturnedEndW U o U' L ({ frames := 2, cells := 3, slots := 364, locals := 27 } : Room).cells ({ frames := 2, cells := 3, slots := 364, locals := 27 } : Room).slots) := by
  refine MetFree.of_bodySF (plainFor_of_name pn_com_example_matchwright_matchwright_book_LevelPool) hisR ?_
  intro p e s m args below meth c s₁ Bd hml0 hP hK
  obtain ⟨rfl, hZ, hh⟩ := hP
  have hx := Bd.exec
  have hby := Bd.bytes
  have hml : c.maxLocals = 2 := hml0
  have hown : s.vm.findClass "com/example/matchwright/matchwright/book/LevelPool" = some m.cls := findClass_of_methodNamed Bd.named
  have hnm := (name_of_methodNamed Bd.named Bd.method).1
  have X0 : Stand p l e ({ frames := 2, cells := 3, slots := 364, locals := 27 } : Room) s m #[(.ref a1), (.ref a2)] below meth c s₁ [] 0 0 := Stand.of_body Bd
  have e0 : s₁.heap = h0 := by rw [← hh, Bd.state]; rfl
  have N0 := Fr.nil n0
  have pw0 : ∀ t, Steps p.tables e below (s₁.setTop (mkF m 0 #[.val (.ref a1), .val (.ref a2)] [])) t → Steps p.tables e below (s₁.setTop (entryFrame m #[(.ref a1), (.ref a2)] 2)) t := fun t k => castTop (ef_4 m a1 a2) k
  have K0 : Keep h0 h0 [a1] := Keep.refl h0 [a1]
  have hS0 : s.Since s.vm h0.size := (State.WarmedH.refl s).since _
  obtain ⟨sa19, T19, h19, kk19, X19, e19, E19, hS19, hk19, hZ, hown, st19⟩ := ldcS (s := s) (vm0 := s.vm) X0 hx hZ hown (hw _ (List.mem_of_getElem? (i := 43) rfl)) (own_str hw) e0 hS0 (Nat.le_refl h0.size) (g := (mkF m 5 #[.val (.ref a1), .val (.ref a2)] [(.int (13 : Int32)), (.int (14 : Int32)), (.ref a1)])) rfl (hb hby d4_5) (n := 136) (by decide) (by decide) (by decide) (by decide)
  have K19 : Keep h0 h19 [a1] := K0.ext E19
  have Z19 : n0 ≤ h19.size := (Nat.le_trans Z0 E19.1)
  obtain ⟨_, _, ⟨T20, L20, k20, n20⟩, -, X20, ⟨Lc20, hQ20, l20, y20, z20⟩, st20⟩ := X19.specialBack hx (y := (⟨"com/example/matchwright/matchwright/book/RecordPool", "<init>", "(IILjava/lang/String;)V"⟩ : MethodName)) rfl hown (mvT hZ (hw _ (List.mem_of_getElem? (i := 44) rfl))) (mvT hZ (hw _ (List.mem_of_getElem? (i := 15) rfl))) (mvT hZ (hw _ (List.mem_of_getElem? (i := 18) rfl))) (by decide) (backOf (W := 0) (rm_2l l Z a0 hw [] a1 sa19 h19 n0 Z19 (E_a1.ext E19) (F_spares.ext E19) (F_fieldsPerRecord.ext E19) (F_spareLink.ext E19) (F_kind.ext E19) (F_maxLength.ext E19) (F_fields.ext E19) (F_inUse.ext E19) (F_end.ext E19) g_a1) hZ (hw _ (List.mem_of_getElem? (i := 18) rfl)) (hw _ (List.mem_of_getElem? (i := 17) rfl)) (by decide) (by decide)) (g := (mkF m 7 #[.val (.ref a1), .val (.ref a2)] [(.ref sa19), (.int (13 : Int32)), (.int (14 : Int32)), (.ref a1)])) rfl (by rw [hml]; rfl) (Steps.refl _) (a := a1) (argsL := [(.int (14 : Int32)), (.int (13 : Int32)), (.ref sa19)]) (rest := []) (lenOf pd__IILjava_lang_String__V rfl) rfl (by show 2 * 0 + _ ≤ _; exact Nat.le_of_eq rfl) (hb hby d4_7) (fun _ _ => ⟨rfl, e19, (by decide : 2 + 1 ≤ _), (by decide : 140 + 224 ≤ _)⟩)
  dsimp only [Pt.U, Pt.locs, Pt.cells, Pt.slots] at X20 l20 y20 z20 st20 hQ20
  subst l20 y20 z20
  obtain ⟨rfl, N20q, K20q, E20q, F020q, F120q, F220q, F320q, fa20, kf20, hfa20, Ff20q, Ha20q⟩ := hQ20
  have N20 := Fr.app N0 N20q
  have K20 : Keep h0 T20.heap [a1] := K19.trans K20q (allS (P := fun x => x ∈ [a1] ∨ h0.size ≤ x) (Or.inl (List.mem_of_getElem? (i := 0) rfl)) all0)
  have Z20 : n0 ≤ T20.heap.size := (Nat.le_trans Z19 K20q.1)
  have ks20 : _ ≤ T20.heap.size := (Nat.le_trans hk19 K20q.1)
  obtain ⟨wo20, Fo20q⟩ := own_fldSome (F_orders.ext E19) K20q
  obtain ⟨T21, h21, X21, e21, W21, st21⟩ := putF X20 hx hZ hown (host := "") (Or.inl (hw _ (List.mem_of_getElem? (i := 51) rfl))) Via.refl rfl Fo20q E20q (Or.inr ⟨(hw _ (List.mem_of_getElem? (i := 52) rfl)), rfl, hnm⟩) (hw _ (List.mem_of_getElem? (i := 38) rfl)) (ty := (.object "com/example/matchwright/matchwright/book/OrderPool")) (by decide) rfl rfl (g := (mkF m 12 #[.val (.ref a1), .val (.ref a2)] [(.ref a2), (.ref a1)])) rfl rfl (hb hby d4_12)
  have Fw21 := Fo20q.same W21
  have K21 : Keep h0 h21 [a1] := K20.wr W21 (Or.inl (List.mem_of_getElem? (i := 0) rfl))
  have N21 := Fr.snoc X21 N20 g_a1
  have Z21 : n0 ≤ h21.size := (Nat.le_trans Z20 (Nat.le_of_eq (Wr.size W21).symm))
  have ks21 : _ ≤ h21.size := (Nat.le_trans ks20 (Nat.le_of_eq (Wr.size W21).symm))
  obtain ⟨fs, hr, hrun, hended, hRE⟩ := X21.leaveW hS19 (show _ ≤ T21.heap.size by rw [e21]; exact ks21) (v := none) (fun _ => rfl)
  refine ⟨_, _, pw0 _ ?_, hrun, hended, _, _, rfl, ?_, hRE.1, hRE.2.1, hRE.2.2.1, hRE.2.2.2.mono (by decide) (by decide)⟩
  · skip
    refine XS.aloadN X0.here hx rfl (hb hby d4_0) rfl rfl ?_
    show Steps p.tables e below (s₁.setTop (mkF m 1 #[.val (.ref a1), .val (.ref a2)] [(.ref a1)])) _
    refine XS.bipush X0.here hx rfl (hb hby d4_1) ?_
    show Steps p.tables e below (s₁.setTop (mkF m 3 #[.val (.ref a1), .val (.ref a2)] [(.int (14 : Int32)), (.ref a1)])) _
    refine XS.bipush X0.here hx rfl (hb hby d4_3) ?_
    show Steps p.tables e below (s₁.setTop (mkF m 5 #[.val (.ref a1), .val (.ref a2)] [(.int (13 : Int32)), (.int (14 : Int32)), (.ref a1)])) _
    refine st19 _ ?_
    show Steps p.tables e below (T19.setTop (mkF m 7 #[.val (.ref a1), .val (.ref a2)] [(.ref sa19), (.int (13 : Int32)), (.int (14 : Int32)), (.ref a1)])) _
    refine st20.trans ?_
    show Steps p.tables e below (T20.setTop (mkF m 10 #[.val (.ref a1), .val (.ref a2)] [])) _
    refine XS.aloadN X20.here hx rfl (hb hby d4_10) rfl rfl ?_
    show Steps p.tables e below (T20.setTop (mkF m 11 #[.val (.ref a1), .val (.ref a2)] [(.ref a1)])) _
    refine XS.aloadN X20.here hx rfl (hb hby d4_11) rfl rfl ?_
    show Steps p.tables e below (T20.setTop (mkF m 12 #[.val (.ref a1), .val (.ref a2)] [(.ref a2), (.ref a1)])) _
    refine st21 _ ?_
    show Steps p.tables e below (T21.setTop (mkF m 15 #[.val (.ref a1), .val (.ref a2)] [])) _
    exact X21.returnOut hx Bd.returns (hb hby d4_15) hr
  · show Q_4 Z a1 a2 h0 n0 _ T21.heap _
    rw [e21]
    exact ⟨rfl, N21, K21, (E20q.wr W21), (F020q.other W21 (Or.inr (slot_ne (Or.inl (hw _ (List.mem_of_getElem? (i := 45) rfl))) (Or.inr (hw _ (List.mem_of_getElem? (i := 52) rfl))) (by decide) (t := .int) (t' := (.object "com/example/matchwright/matchwright/book/OrderPool")) (by decide) (by decide)))), (F120q.other W21 (Or.inr (slot_ne (Or.inr (hw _ (List.mem_of_getElem? (i := 46) rfl))) (Or.inr (hw _ (List.mem_of_getElem? (i := 52) rfl))) (by decide) (t := .int) (t' := (.object "com/example/matchwright/matchwright/book/OrderPool")) (by decide) (by decide)))), (F220q.other W21 (Or.inr (slot_ne (Or.inl (hw _ (List.mem_of_getElem? (i := 65) rfl))) (Or.inr (hw _ (List.mem_of_getElem? (i := 52) rfl))) (by decide) (t := .int) (t' := (.object "com/example/matchwright/matchwright/book/OrderPool")) (by decide) (by decide)))), (F320q.other W21 (Or.inr (slot_ne (Or.inl (hw _ (List.mem_of_getElem? (i := 67) rfl))) (Or.inr (hw _ (List.mem_of_getElem? (i := 52) rfl))) (by decide) (t := .int) (t' := (.object "com/example/matchwright/matchwright/book/OrderPool")) (by decide) (by decide)))), fa20, _, (Nat.le_trans K19.1 hfa20), (Ff20q.other W21 (Or.inr (slot_ne (Or.inl (hw _ (List.mem_of_getElem? (i := 50) rfl))) (Or.inr (hw _ (List.mem_of_getElem? (i := 52) rfl))) (by decide) (t := (.array .long)) (t' := (.object "com/example/matchwright/matchwright/book/OrderPool")) (by decide) (by decide)))), (Ha20q.other W21 (Nat.ne_of_gt (Nat.lt_of_lt_of_le ((E_a1.ext E19)).lt hfa20)))⟩
theorem d6_0 : decode prog_9_method_2_code 0 = .ok (.aload_n 0, 1) := by decide +kernel
theorem d6_1 : decode prog_9_method_2_code 1 = .ok (.dup, 1) := by decide +kernel
theorem d6_2 : decode prog_9_method_2_code 2 = .ok (.getfield 34, 3) := by decide +kernel
theorem d6_5 : decode prog_9_method_2_code 5 = .ok (.iconst 1, 1) := by decide +kernel
theorem d6_6 : decode prog_9_method_2_code 6 = .ok (.iadd, 1) := by decide +kernel
theorem d6_7 : decode prog_9_method_2_code 7 = .ok (.putfield 34, 3) := by decide +kernel
theorem d6_10 : decode prog_9_method_2_code 10 = .ok (.aload_n 0, 1) := by decide +kernel
theorem d6_11 : decode prog_9_method_2_code 11 = .ok (.getfield 12, 3) := by decide +kernel
theorem d6_14 : decode prog_9_method_2_code 14 = .ok (.istore_n 1, 1) := by decide +kernel
theorem d6_15 : decode prog_9_method_2_code 15 = .ok (.iload_n 1, 1) := by decide +kernel
theorem d6_16 : decode prog_9_method_2_code 16 = .ok (.ldc 11, 2) := by decide +kernel
theorem d6_18 : decode prog_9_method_2_code 18 = .ok (.if_icmp .eq 21, 3) := by decide +kernel
theorem d6_39 : decode prog_9_method_2_code 39 = .ok (.aload_n 0, 1) := by decide +kernel
theorem d6_40 : decode prog_9_method_2_code 40 = .ok (.getfield 37, 3) := by decide +kernel
theorem d6_43 : decode prog_9_method_2_code 43 = .ok (.aload_n 0, 1) := by decide +kernel
theorem d6_44 : decode prog_9_method_2_code 44 = .ok (.getfield 30, 3) := by decide +kernel
theorem d6_47 : decode prog_9_method_2_code 47 = .ok (.arraylength, 1) := by decide +kernel
theorem d6_48 : decode prog_9_method_2_code 48 = .ok (.if_icmp .ne 7, 3) := by decide +kernel
theorem d6_55 : decode prog_9_method_2_code 55 = .ok (.aload_n 0, 1) := by decide +kernel
theorem d6_56 : decode prog_9_method_2_code 56 = .ok (.getfield 37, 3) := by decide +kernel
theorem d6_59 : decode prog_9_method_2_code 59 = .ok (.istore_n 2, 1) := by decide +kernel
theorem d6_60 : decode prog_9_method_2_code 60 = .ok (.aload_n 0, 1) := by decide +kernel
theorem d6_61 : decode prog_9_method_2_code 61 = .ok (.dup, 1) := by decide +kernel
theorem d6_62 : decode prog_9_method_2_code 62 = .ok (.getfield 37, 3) := by decide +kernel
theorem d6_65 : decode prog_9_method_2_code 65 = .ok (.aload_n 0, 1) := by decide +kernel
theorem d6_66 : decode prog_9_method_2_code 66 = .ok (.getfield 16, 3) := by decide +kernel
theorem d6_69 : decode prog_9_method_2_code 69 = .ok (.iadd, 1) := by decide +kernel
theorem d6_70 : decode prog_9_method_2_code 70 = .ok (.putfield 37, 3) := by decide +kernel
theorem d6_73 : decode prog_9_method_2_code 73 = .ok (.iload_n 2, 1) := by decide +kernel
theorem d6_74 : decode prog_9_method_2_code 74 = .ok (.ireturn, 1) := by decide +kernel
theorem ef_6a (m : MethodId) (x0 : Addr) : entryFrame m #[(.ref x0)] 3 = mkF m 0 #[.val (.ref x0), .unset, .unset] [] := by first | (simp [entryFrame, mkF, argsToLocals, Value.category]; done) | rfl
def Q_6a (Z : State) (a1 : Addr) (fa : Addr) (kk : ClassId) (hs : List (Int32 × Value)) (h0 : Heap) (n0 : Nat) (v : Option Value) (h : Heap) (L : List Loc) : Prop := v = some (.int (0 : Int32)) ∧ Fr n0 L ∧ Keep h0 h [a1] ∧ Exa Z h a1 "com/example/matchwright/matchwright/book/LevelPool" ∧ Fld Z h a1 "com/example/matchwright/matchwright/book/RecordPool" "spares" "I" (.int (-2147483648 : Int32)) ∧ Fld Z h a1 "com/example/matchwright/matchwright/book/RecordPool" "fieldsPerRecord" "I" (.int (14 : Int32)) ∧ Fld Z h a1 "com/example/matchwright/matchwright/book/RecordPool" "inUse" "I" (.int (1 : Int32)) ∧ Fld Z h a1 "com/example/matchwright/matchwright/book/RecordPool" "end" "I" (.int (14 : Int32)) ∧ Fld Z h a1 "com/example/matchwright/matchwright/book/RecordPool" "fields" "[J" (.ref fa)
set_option maxRecDepth 65536 in
set_option maxHeartbeats 40000000 in
theorem rm_6a (l : Launch) (Z : State) (a0 : Array Value) (hw : ∀ d ∈ tables_1, d.before a0 Z = true) (ws : List Jvm.Cond) (a1 : Addr) (fa : Addr) (kk : ClassId) (hs : List (Int32 × Value)) (h0 : Heap) (n0 : Nat) (Z0 : n0 ≤ h0.size) (E_a1 : Exa Z h0 a1 "com/example/matchwright/matchwright/book/LevelPool") (F_spares : Fld Z h0 a1 "com/example/matchwright/matchwright/book/RecordPool" "spares" "I" (.int (-2147483648 : Int32))) (F_fieldsPerRecord : Fld Z h0 a1 "com/example/matchwright/matchwright/book/RecordPool" "fieldsPerRecord" "I" (.int (14 : Int32))) (F_inUse : Fld Z h0 a1 "com/example/matchwright/matchwright/book/RecordPool" "inUse" "I" (.int (0 : Int32))) (F_end : Fld Z h0 a1 "com/example/matchwright/matchwright/book/RecordPool" "end" "I" (.int (0 : Int32))) (F_fields : Fld Z h0 a1 "com/example/matchwright/matchwright/book/RecordPool" "fields" "[J" (.ref fa)) (H_fa : Arh Z h0 fa kk .long (224 : Int32) hs [] (.long (0 : Int64))) (g_a1 : n0 ≤ a1) (g_fa : n0 ≤ fa) (hne : a1 ≠ fa) :
    MetFree l (⟨"com/example/matchwright/matchwright/book/RecordPool", "takeRecord", "()I"⟩ : MethodName) (head1 (Jvm.Cond.code (⟨"com/example/matchwright/matchwright/book/RecordPool", "takeRecord", "()I"⟩ : MethodName) prog_9_method_2_code 3 (some .int) :: ws) ({ frames := 0, cells := 0, slots := 0, locals := 0 } : Room)) (fun a U => a = #[(.ref a1)] ∧ Z.Warmed39 U.vm ∧ U.heap = h0) (fun _ _ _ _ _ => True) (fun _ U o U' => ∃ v L, o = .returned v ∧ Q_6a Z a1 fa kk hs h0 n0 v U'.heap L ∧ FrameEnd U o U' L ({ frames := 0, cells := 0, slots := 0, locals := 0 } : Room).cells ({ frames := 0, cells := 0, slots := 0, locals := 0 } : Room).slots) := by
  refine MetFree.of_bodySF (plainFor_of_name pn_com_example_matchwright_matchwright_book_RecordPool) hisR ?_
  intro p e s m args below meth c s₁ Bd hml0 hP hK
  obtain ⟨rfl, hZ, hh⟩ := hP
  have hx := Bd.exec
  have hby := Bd.bytes
  have hml : c.maxLocals = 3 := hml0
  have hown : s.vm.findClass "com/example/matchwright/matchwright/book/RecordPool" = some m.cls := findClass_of_methodNamed Bd.named
  have hnm := (name_of_methodNamed Bd.named Bd.method).1
  have X0 : Stand p l e ({ frames := 0, cells := 0, slots := 0, locals := 0 } : Room) s m #[(.ref a1)] below meth c s₁ [] 0 0 := Stand.of_body Bd
  have e0 : s₁.heap = h0 := by rw [← hh, Bd.state]; rfl
  have N0 := Fr.nil n0
  have pw0 : ∀ t, Steps p.tables e below (s₁.setTop (mkF m 0 #[.val (.ref a1), .unset, .unset] [])) t → Steps p.tables e below (s₁.setTop (entryFrame m #[(.ref a1)] 3)) t := fun t k => castTop (ef_6a m a1) k
  have K0 : Keep h0 h0 [a1] := Keep.refl h0 [a1]
  obtain ⟨T22, X22, e22, st22⟩ := getF X0 hx hZ hown (host := "") (Or.inl (hw _ (List.mem_of_getElem? (i := 64) rfl))) Via.refl e0 F_inUse (g := (mkF m 2 #[.val (.ref a1), .unset, .unset] [(.ref a1), (.ref a1)])) rfl rfl (hb hby d6_2)
  obtain ⟨T23, h23, X23, e23, W23, st23⟩ := putF X22 hx hZ hown (host := "") (Or.inl (hw _ (List.mem_of_getElem? (i := 64) rfl))) Via.refl e22 F_inUse E_a1 (Or.inl (hw _ (List.mem_of_getElem? (i := 65) rfl))) (hw _ (List.mem_of_getElem? (i := 38) rfl)) (ty := .int) (by decide) rfl rfl (g := (mkF m 7 #[.val (.ref a1), .unset, .unset] [(.int (1 : Int32)), (.ref a1)])) rfl rfl (hb hby d6_7)
  have Fw23 := F_inUse.same W23
  have K23 : Keep h0 h23 [a1] := K0.wr W23 (Or.inl (List.mem_of_getElem? (i := 0) rfl))
  have N23 := Fr.snoc X23 N0 g_a1
  have Z23 : n0 ≤ h23.size := (Nat.le_trans Z0 (Nat.le_of_eq (Wr.size W23).symm))
  obtain ⟨T24, X24, e24, st24⟩ := getF X23 hx hZ hown (host := "") (Or.inl (hw _ (List.mem_of_getElem? (i := 23) rfl))) Via.refl e23 (F_spares.other W23 (Or.inr (slot_ne (Or.inl (hw _ (List.mem_of_getElem? (i := 45) rfl))) (Or.inl (hw _ (List.mem_of_getElem? (i := 65) rfl))) (by decide) (t := .int) (t' := .int) (by decide) (by decide)))) (g := (mkF m 11 #[.val (.ref a1), .unset, .unset] [(.ref a1)])) rfl rfl (hb hby d6_11)
  obtain ⟨T25, X25, e25, st25⟩ := getF X24 hx hZ hown (host := "") (Or.inl (hw _ (List.mem_of_getElem? (i := 66) rfl))) Via.refl e24 (F_end.other W23 (Or.inr (slot_ne (Or.inl (hw _ (List.mem_of_getElem? (i := 67) rfl))) (Or.inl (hw _ (List.mem_of_getElem? (i := 65) rfl))) (by decide) (t := .int) (t' := .int) (by decide) (by decide)))) (g := (mkF m 40 #[.val (.ref a1), .val (.int (-2147483648 : Int32)), .unset] [(.ref a1)])) rfl rfl (hb hby d6_40)
  obtain ⟨T26, X26, e26, st26⟩ := getF X25 hx hZ hown (host := "") (Or.inl (hw _ (List.mem_of_getElem? (i := 35) rfl))) Via.refl e25 (F_fields.other W23 (Or.inr (slot_ne (Or.inl (hw _ (List.mem_of_getElem? (i := 50) rfl))) (Or.inl (hw _ (List.mem_of_getElem? (i := 65) rfl))) (by decide) (t := (.array .long)) (t' := .int) (by decide) (by decide)))) (g := (mkF m 44 #[.val (.ref a1), .val (.int (-2147483648 : Int32)), .unset] [(.ref a1), (.int (0 : Int32))])) rfl rfl (hb hby d6_44)
  obtain ⟨c27, Arc27, qc27, Sc27, Mc27, Hsc27, Gc27⟩ := id (H_fa.other W23 (Ne.symm hne))
  obtain ⟨T28, X28, e28, st28⟩ := getF X26 hx hZ hown (host := "") (Or.inl (hw _ (List.mem_of_getElem? (i := 66) rfl))) Via.refl e26 (F_end.other W23 (Or.inr (slot_ne (Or.inl (hw _ (List.mem_of_getElem? (i := 67) rfl))) (Or.inl (hw _ (List.mem_of_getElem? (i := 65) rfl))) (by decide) (t := .int) (t' := .int) (by decide) (by decide)))) (g := (mkF m 56 #[.val (.ref a1), .val (.int (-2147483648 : Int32)), .unset] [(.ref a1)])) rfl rfl (hb hby d6_56)
  obtain ⟨T29, X29, e29, st29⟩ := getF X28 hx hZ hown (host := "") (Or.inl (hw _ (List.mem_of_getElem? (i := 66) rfl))) Via.refl e28 (F_end.other W23 (Or.inr (slot_ne (Or.inl (hw _ (List.mem_of_getElem? (i := 67) rfl))) (Or.inl (hw _ (List.mem_of_getElem? (i := 65) rfl))) (by decide) (t := .int) (t' := .int) (by decide) (by decide)))) (g := (mkF m 62 #[.val (.ref a1), .val (.int (-2147483648 : Int32)), .val (.int (0 : Int32))] [(.ref a1), (.ref a1)])) rfl rfl (hb hby d6_62)
  obtain ⟨T30, X30, e30, st30⟩ := getF X29 hx hZ hown (host := "") (Or.inl (hw _ (List.mem_of_getElem? (i := 25) rfl))) Via.refl e29 (F_fieldsPerRecord.other W23 (Or.inr (slot_ne (Or.inr (hw _ (List.mem_of_getElem? (i := 46) rfl))) (Or.inl (hw _ (List.mem_of_getElem? (i := 65) rfl))) (by decide) (t := .int) (t' := .int) (by decide) (by decide)))) (g := (mkF m 66 #[.val (.ref a1), .val (.int (-2147483648 : Int32)), .val (.int (0 : Int32))] [(.ref a1), (.int (0 : Int32)), (.ref a1)])) rfl rfl (hb hby d6_66)
  obtain ⟨T31, h31, X31, e31, W31, st31⟩ := putF X30 hx hZ hown (host := "") (Or.inl (hw _ (List.mem_of_getElem? (i := 66) rfl))) Via.refl e30 (F_end.other W23 (Or.inr (slot_ne (Or.inl (hw _ (List.mem_of_getElem? (i := 67) rfl))) (Or.inl (hw _ (List.mem_of_getElem? (i := 65) rfl))) (by decide) (t := .int) (t' := .int) (by decide) (by decide)))) (E_a1.wr W23) (Or.inl (hw _ (List.mem_of_getElem? (i := 67) rfl))) (hw _ (List.mem_of_getElem? (i := 38) rfl)) (ty := .int) (by decide) rfl rfl (g := (mkF m 70 #[.val (.ref a1), .val (.int (-2147483648 : Int32)), .val (.int (0 : Int32))] [(.int (14 : Int32)), (.ref a1)])) rfl rfl (hb hby d6_70)
  have Fw31 := (F_end.other W23 (Or.inr (slot_ne (Or.inl (hw _ (List.mem_of_getElem? (i := 67) rfl))) (Or.inl (hw _ (List.mem_of_getElem? (i := 65) rfl))) (by decide) (t := .int) (t' := .int) (by decide) (by decide)))).same W31
  have K31 : Keep h0 h31 [a1] := K23.wr W31 (Or.inl (List.mem_of_getElem? (i := 0) rfl))
  have N31 := Fr.snoc X31 N23 g_a1
  have Z31 : n0 ≤ h31.size := (Nat.le_trans Z23 (Nat.le_of_eq (Wr.size W31).symm))
  obtain ⟨fs, hr, hrun, hended, hW, hsame⟩ := X31.leave (v := some (.int (0 : Int32))) (fun h => by rw [Bd.returns] at h; cases h)
  refine ⟨_, _, pw0 _ ?_, hrun, hended, _, _, rfl, ?_, ⟨_, rfl⟩, hW, hsame.mono (by decide) (by decide)⟩
  · skip
    refine XS.aloadN X0.here hx rfl (hb hby d6_0) rfl rfl ?_
    show Steps p.tables e below (s₁.setTop (mkF m 1 #[.val (.ref a1), .unset, .unset] [(.ref a1)])) _
    refine XS.dup X0.here hx rfl (hb hby d6_1) rfl rfl ?_
    show Steps p.tables e below (s₁.setTop (mkF m 2 #[.val (.ref a1), .unset, .unset] [(.ref a1), (.ref a1)])) _
    refine st22 _ ?_
    show Steps p.tables e below (T22.setTop (mkF m 5 #[.val (.ref a1), .unset, .unset] [(.int (0 : Int32)), (.ref a1)])) _
    refine XS.iconst X22.here hx rfl (hb hby d6_5) ?_
    show Steps p.tables e below (T22.setTop (mkF m 6 #[.val (.ref a1), .unset, .unset] [(.int (1 : Int32)), (.int (0 : Int32)), (.ref a1)])) _
    refine XS.iadd X22.here hx rfl (hb hby d6_6) rfl ?_
    show Steps p.tables e below (T22.setTop (mkF m 7 #[.val (.ref a1), .unset, .unset] [(.int (1 : Int32)), (.ref a1)])) _
    refine st23 _ ?_
    show Steps p.tables e below (T23.setTop (mkF m 10 #[.val (.ref a1), .unset, .unset] [])) _
    refine XS.aloadN X23.here hx rfl (hb hby d6_10) rfl rfl ?_
    show Steps p.tables e below (T23.setTop (mkF m 11 #[.val (.ref a1), .unset, .unset] [(.ref a1)])) _
    refine st24 _ ?_
    show Steps p.tables e below (T24.setTop (mkF m 14 #[.val (.ref a1), .unset, .unset] [(.int (-2147483648 : Int32))])) _
    refine XS.istoreN X24.here hx rfl (hb hby d6_14) rfl (l' := #[.val (.ref a1), .val (.int (-2147483648 : Int32)), .unset]) rfl ?_
    show Steps p.tables e below (T24.setTop (mkF m 15 #[.val (.ref a1), .val (.int (-2147483648 : Int32)), .unset] [])) _
    refine XS.iloadN X24.here hx rfl (hb hby d6_15) rfl ?_
    show Steps p.tables e below (T24.setTop (mkF m 16 #[.val (.ref a1), .val (.int (-2147483648 : Int32)), .unset] [(.int (-2147483648 : Int32))])) _
    refine X24.ldcInt hx hown (mvT hZ (hw _ (List.mem_of_getElem? (i := 22) rfl))) (g := (mkF m 16 #[.val (.ref a1), .val (.int (-2147483648 : Int32)), .unset] [(.int (-2147483648 : Int32))])) rfl (hb hby d6_16) _ ?_
    show Steps p.tables e below (T24.setTop (mkF m 18 #[.val (.ref a1), .val (.int (-2147483648 : Int32)), .unset] [(.int (-2147483648 : Int32)), (.int (-2147483648 : Int32))])) _
    refine XS.icmpYes X24.here hx rfl (pc0 := 18) (pc' := 39) rfl (hb hby d6_18) rfl (teq (by decide : (-2147483648 : Int32) = (-2147483648 : Int32))).1 (by decide) (by decide) ?_
    show Steps p.tables e below (T24.setTop (mkF m 39 #[.val (.ref a1), .val (.int (-2147483648 : Int32)), .unset] [])) _
    refine XS.aloadN X24.here hx rfl (hb hby d6_39) rfl rfl ?_
    show Steps p.tables e below (T24.setTop (mkF m 40 #[.val (.ref a1), .val (.int (-2147483648 : Int32)), .unset] [(.ref a1)])) _
    refine st25 _ ?_
    show Steps p.tables e below (T25.setTop (mkF m 43 #[.val (.ref a1), .val (.int (-2147483648 : Int32)), .unset] [(.int (0 : Int32))])) _
    refine XS.aloadN X25.here hx rfl (hb hby d6_43) rfl rfl ?_
    show Steps p.tables e below (T25.setTop (mkF m 44 #[.val (.ref a1), .val (.int (-2147483648 : Int32)), .unset] [(.ref a1), (.int (0 : Int32))])) _
    refine st26 _ ?_
    show Steps p.tables e below (T26.setTop (mkF m 47 #[.val (.ref a1), .val (.int (-2147483648 : Int32)), .unset] [(.ref fa), (.int (0 : Int32))])) _
    refine X26.arraylength hx (by rw [e26]; exact Arc27.1) (State.isArrayOf_alike hZ.alike Arc27.2.1) (g := (mkF m 47 #[.val (.ref a1), .val (.int (-2147483648 : Int32)), .unset] [(.ref fa), (.int (0 : Int32))])) rfl rfl (hb hby d6_47) _ ?_
    rw [len_of Sc27 Mc27]
    show Steps p.tables e below (T26.setTop (mkF m 48 #[.val (.ref a1), .val (.int (-2147483648 : Int32)), .unset] [(.int (224 : Int32)), (.int (0 : Int32))])) _
    refine XS.icmpYes X26.here hx rfl (pc0 := 48) (pc' := 55) rfl (hb hby d6_48) rfl (feq (by decide : ¬ ((0 : Int32) = (224 : Int32)))).2 (by decide) (by decide) ?_
    show Steps p.tables e below (T26.setTop (mkF m 55 #[.val (.ref a1), .val (.int (-2147483648 : Int32)), .unset] [])) _
    refine XS.aloadN X26.here hx rfl (hb hby d6_55) rfl rfl ?_
    show Steps p.tables e below (T26.setTop (mkF m 56 #[.val (.ref a1), .val (.int (-2147483648 : Int32)), .unset] [(.ref a1)])) _
    refine st28 _ ?_
    show Steps p.tables e below (T28.setTop (mkF m 59 #[.val (.ref a1), .val (.int (-2147483648 : Int32)), .unset] [(.int (0 : Int32))])) _
    refine XS.istoreN X28.here hx rfl (hb hby d6_59) rfl (l' := #[.val (.ref a1), .val (.int (-2147483648 : Int32)), .val (.int (0 : Int32))]) rfl ?_
    show Steps p.tables e below (T28.setTop (mkF m 60 #[.val (.ref a1), .val (.int (-2147483648 : Int32)), .val (.int (0 : Int32))] [])) _
    refine XS.aloadN X28.here hx rfl (hb hby d6_60) rfl rfl ?_
    show Steps p.tables e below (T28.setTop (mkF m 61 #[.val (.ref a1), .val (.int (-2147483648 : Int32)), .val (.int (0 : Int32))] [(.ref a1)])) _
    refine XS.dup X28.here hx rfl (hb hby d6_61) rfl rfl ?_
    show Steps p.tables e below (T28.setTop (mkF m 62 #[.val (.ref a1), .val (.int (-2147483648 : Int32)), .val (.int (0 : Int32))] [(.ref a1), (.ref a1)])) _
    refine st29 _ ?_
    show Steps p.tables e below (T29.setTop (mkF m 65 #[.val (.ref a1), .val (.int (-2147483648 : Int32)), .val (.int (0 : Int32))] [(.int (0 : Int32)), (.ref a1)])) _
    refine XS.aloadN X29.here hx rfl (hb hby d6_65) rfl rfl ?_
    show Steps p.tables e below (T29.setTop (mkF m 66 #[.val (.ref a1), .val (.int (-2147483648 : Int32)), .val (.int (0 : Int32))] [(.ref a1), (.int (0 : Int32)), (.ref a1)])) _
    refine st30 _ ?_
    show Steps p.tables e below (T30.setTop (mkF m 69 #[.val (.ref a1), .val (.int (-2147483648 : Int32)), .val (.int (0 : Int32))] [(.int (14 : Int32)), (.int (0 : Int32)), (.ref a1)])) _
    refine XS.iadd X30.here hx rfl (hb hby d6_69) rfl ?_
    show Steps p.tables e below (T30.setTop (mkF m 70 #[.val (.ref a1), .val (.int (-2147483648 : Int32)), .val (.int (0 : Int32))] [(.int (14 : Int32)), (.ref a1)])) _
    refine st31 _ ?_
    show Steps p.tables e below (T31.setTop (mkF m 73 #[.val (.ref a1), .val (.int (-2147483648 : Int32)), .val (.int (0 : Int32))] [])) _
    refine XS.iloadN X31.here hx rfl (hb hby d6_73) rfl ?_
    show Steps p.tables e below (T31.setTop (mkF m 74 #[.val (.ref a1), .val (.int (-2147483648 : Int32)), .val (.int (0 : Int32))] [(.int (0 : Int32))])) _
    exact retI X31 hx Bd.returns (hb hby d6_74) hr
  · show Q_6a Z a1 fa kk hs h0 n0 _ T31.heap _
    rw [e31]
    exact ⟨rfl, N31, K31, ((E_a1.wr W23).wr W31), ((F_spares.other W23 (Or.inr (slot_ne (Or.inl (hw _ (List.mem_of_getElem? (i := 45) rfl))) (Or.inl (hw _ (List.mem_of_getElem? (i := 65) rfl))) (by decide) (t := .int) (t' := .int) (by decide) (by decide)))).other W31 (Or.inr (slot_ne (Or.inl (hw _ (List.mem_of_getElem? (i := 45) rfl))) (Or.inl (hw _ (List.mem_of_getElem? (i := 67) rfl))) (by decide) (t := .int) (t' := .int) (by decide) (by decide)))), ((F_fieldsPerRecord.other W23 (Or.inr (slot_ne (Or.inr (hw _ (List.mem_of_getElem? (i := 46) rfl))) (Or.inl (hw _ (List.mem_of_getElem? (i := 65) rfl))) (by decide) (t := .int) (t' := .int) (by decide) (by decide)))).other W31 (Or.inr (slot_ne (Or.inr (hw _ (List.mem_of_getElem? (i := 46) rfl))) (Or.inl (hw _ (List.mem_of_getElem? (i := 67) rfl))) (by decide) (t := .int) (t' := .int) (by decide) (by decide)))), (Fw23.other W31 (Or.inr (slot_ne (Or.inl (hw _ (List.mem_of_getElem? (i := 65) rfl))) (Or.inl (hw _ (List.mem_of_getElem? (i := 67) rfl))) (by decide) (t := .int) (t' := .int) (by decide) (by decide)))), Fw31, ((F_fields.other W23 (Or.inr (slot_ne (Or.inl (hw _ (List.mem_of_getElem? (i := 50) rfl))) (Or.inl (hw _ (List.mem_of_getElem? (i := 65) rfl))) (by decide) (t := (.array .long)) (t' := .int) (by decide) (by decide)))).other W31 (Or.inr (slot_ne (Or.inl (hw _ (List.mem_of_getElem? (i := 50) rfl))) (Or.inl (hw _ (List.mem_of_getElem? (i := 67) rfl))) (by decide) (t := (.array .long)) (t' := .int) (by decide) (by decide))))⟩
theorem d5_0 : decode prog_4_method_2_code 0 = .ok (.aload_n 0, 1) := by decide +kernel
theorem d5_1 : decode prog_4_method_2_code 1 = .ok (.invokevirtual 15, 3) := by decide +kernel
theorem d5_4 : decode prog_4_method_2_code 4 = .ok (.istore 5, 2) := by decide +kernel
theorem d5_6 : decode prog_4_method_2_code 6 = .ok (.aload_n 0, 1) := by decide +kernel
theorem d5_7 : decode prog_4_method_2_code 7 = .ok (.getfield 19, 3) := by decide +kernel
theorem d5_10 : decode prog_4_method_2_code 10 = .ok (.iload 5, 2) := by decide +kernel
theorem d5_12 : decode prog_4_method_2_code 12 = .ok (.bipush 7, 2) := by decide +kernel
theorem d5_14 : decode prog_4_method_2_code 14 = .ok (.iadd, 1) := by decide +kernel
theorem d5_15 : decode prog_4_method_2_code 15 = .ok (.lload_n 1, 1) := by decide +kernel
theorem d5_16 : decode prog_4_method_2_code 16 = .ok (.lastore, 1) := by decide +kernel
theorem d5_17 : decode prog_4_method_2_code 17 = .ok (.aload_n 0, 1) := by decide +kernel
theorem d5_18 : decode prog_4_method_2_code 18 = .ok (.getfield 19, 3) := by decide +kernel
theorem d5_21 : decode prog_4_method_2_code 21 = .ok (.iload 5, 2) := by decide +kernel
theorem d5_23 : decode prog_4_method_2_code 23 = .ok (.iconst 0, 1) := by decide +kernel
theorem d5_24 : decode prog_4_method_2_code 24 = .ok (.iadd, 1) := by decide +kernel
theorem d5_25 : decode prog_4_method_2_code 25 = .ok (.lload_n 3, 1) := by decide +kernel
theorem d5_26 : decode prog_4_method_2_code 26 = .ok (.lastore, 1) := by decide +kernel
theorem d5_27 : decode prog_4_method_2_code 27 = .ok (.aload_n 0, 1) := by decide +kernel
theorem d5_28 : decode prog_4_method_2_code 28 = .ok (.getfield 19, 3) := by decide +kernel
theorem d5_31 : decode prog_4_method_2_code 31 = .ok (.iload 5, 2) := by decide +kernel
theorem d5_33 : decode prog_4_method_2_code 33 = .ok (.bipush 9, 2) := by decide +kernel
theorem d5_35 : decode prog_4_method_2_code 35 = .ok (.iadd, 1) := by decide +kernel
theorem d5_36 : decode prog_4_method_2_code 36 = .ok (.ldc2_w 23, 3) := by decide +kernel
theorem d5_39 : decode prog_4_method_2_code 39 = .ok (.lastore, 1) := by decide +kernel
theorem d5_40 : decode prog_4_method_2_code 40 = .ok (.iload 5, 2) := by decide +kernel
theorem d5_42 : decode prog_4_method_2_code 42 = .ok (.ireturn, 1) := by decide +kernel
theorem ef_5a (m : MethodId) (x0 : Addr) (x1 : Int64) (x2 : Int64) : entryFrame m #[(.ref x0), (.long x1), (.long x2)] 6 = mkF m 0 #[.val (.ref x0), .val (.long x1), .second, .val (.long x2), .second, .unset] [] := by first | (simp [entryFrame, mkF, argsToLocals, Value.category]; done) | rfl
def Q_5a (Z : State) (a1 : Addr) (q2 : Int64) (q3 : Int64) (fa : Addr) (kk : ClassId) (hs : List (Int32 × Value)) (h0 : Heap) (n0 : Nat) (v : Option Value) (h : Heap) (L : List Loc) : Prop := v = some (.int (0 : Int32)) ∧ Fr n0 L ∧ Keep h0 h [a1, fa] ∧ Exa Z h a1 "com/example/matchwright/matchwright/book/LevelPool" ∧ Fld Z h a1 "com/example/matchwright/matchwright/book/RecordPool" "spares" "I" (.int (-2147483648 : Int32)) ∧ Fld Z h a1 "com/example/matchwright/matchwright/book/RecordPool" "fieldsPerRecord" "I" (.int (14 : Int32)) ∧ Fld Z h a1 "com/example/matchwright/matchwright/book/RecordPool" "inUse" "I" (.int (1 : Int32)) ∧ Fld Z h a1 "com/example/matchwright/matchwright/book/RecordPool" "end" "I" (.int (14 : Int32)) ∧ Fld Z h a1 "com/example/matchwright/matchwright/book/RecordPool" "fields" "[J" (.ref fa) ∧ Arh Z h fa kk .long (224 : Int32) (((9 : Int32), .long (-2147483648 : Int64)) :: ((0 : Int32), .long q3) :: ((7 : Int32), .long q2) :: hs) [] (.long (0 : Int64))
set_option maxRecDepth 65536 in
set_option maxHeartbeats 40000000 in
theorem rm_5a (l : Launch) (Z : State) (a0 : Array Value) (hw : ∀ d ∈ tables_1, d.before a0 Z = true) (ws : List Jvm.Cond) (a1 : Addr) (q2 : Int64) (q3 : Int64) (fa : Addr) (kk : ClassId) (hs : List (Int32 × Value)) (h0 : Heap) (n0 : Nat) (Z0 : n0 ≤ h0.size) (E_a1 : Exa Z h0 a1 "com/example/matchwright/matchwright/book/LevelPool") (F_spares : Fld Z h0 a1 "com/example/matchwright/matchwright/book/RecordPool" "spares" "I" (.int (-2147483648 : Int32))) (F_fieldsPerRecord : Fld Z h0 a1 "com/example/matchwright/matchwright/book/RecordPool" "fieldsPerRecord" "I" (.int (14 : Int32))) (F_inUse : Fld Z h0 a1 "com/example/matchwright/matchwright/book/RecordPool" "inUse" "I" (.int (0 : Int32))) (F_end : Fld Z h0 a1 "com/example/matchwright/matchwright/book/RecordPool" "end" "I" (.int (0 : Int32))) (F_fields : Fld Z h0 a1 "com/example/matchwright/matchwright/book/RecordPool" "fields" "[J" (.ref fa)) (H_fa : Arh Z h0 fa kk .long (224 : Int32) hs [] (.long (0 : Int64))) (g_a1 : n0 ≤ a1) (g_fa : n0 ≤ fa) (hne : a1 ≠ fa) :
    MetFree l (⟨"com/example/matchwright/matchwright/book/LevelPool", "take", "(JJ)I"⟩ : MethodName) (head1 (Jvm.Cond.code (⟨"com/example/matchwright/matchwright/book/LevelPool", "take", "(JJ)I"⟩ : MethodName) prog_4_method_2_code 6 (some .int) :: ws) ({ frames := 1, cells := 0, slots := 0, locals := 14 } : Room)) (fun a U => a = #[(.ref a1), (.long q2), (.long q3)] ∧ Z.Warmed39 U.vm ∧ U.heap = h0) (fun _ _ _ _ _ => True) (fun _ U o U' => ∃ v L, o = .returned v ∧ Q_5a Z a1 q2 q3 fa kk hs h0 n0 v U'.heap L ∧ FrameEnd U o U' L ({ frames := 1, cells := 0, slots := 0, locals := 14 } : Room).cells ({ frames := 1, cells := 0, slots := 0, locals := 14 } : Room).slots) := by
  refine MetFree.of_bodySF (plainFor_of_name pn_com_example_matchwright_matchwright_book_LevelPool) hisR ?_
  intro p e s m args below meth c s₁ Bd hml0 hP hK
  obtain ⟨rfl, hZ, hh⟩ := hP
  have hx := Bd.exec
  have hby := Bd.bytes
  have hml : c.maxLocals = 6 := hml0
  have hown : s.vm.findClass "com/example/matchwright/matchwright/book/LevelPool" = some m.cls := findClass_of_methodNamed Bd.named
  have hnm := (name_of_methodNamed Bd.named Bd.method).1
  have X0 : Stand p l e ({ frames := 1, cells := 0, slots := 0, locals := 14 } : Room) s m #[(.ref a1), (.long q2), (.long q3)] below meth c s₁ [] 0 0 := Stand.of_body Bd
  have e0 : s₁.heap = h0 := by rw [← hh, Bd.state]; rfl
  have N0 := Fr.nil n0
  have pw0 : ∀ t, Steps p.tables e below (s₁.setTop (mkF m 0 #[.val (.ref a1), .val (.long q2), .second, .val (.long q3), .second, .unset] [])) t → Steps p.tables e below (s₁.setTop (entryFrame m #[(.ref a1), (.long q2), (.long q3)] 6)) t := fun t k => castTop (ef_5a m a1 q2 q3) k
  have K0 : Keep h0 h0 [a1, fa] := Keep.refl h0 [a1, fa]
  obtain ⟨cq32, kq32, q32a, q32b, q32c⟩ := isOf hZ e0 E_a1
  obtain ⟨_, _, ⟨T32, L32, k32, n32⟩, -, X32, ⟨Lc32, hQ32, l32, y32, z32⟩, st32⟩ := X0.virtualBackUp hx (owner := "com/example/matchwright/matchwright/book/RecordPool") (x := (⟨"com/example/matchwright/matchwright/book/LevelPool", "takeRecord", "()I"⟩ : MethodName)) (y := (⟨"com/example/matchwright/matchwright/book/RecordPool", "takeRecord", "()I"⟩ : MethodName)) hown (mvT hZ (hw _ (List.mem_of_getElem? (i := 58) rfl))) (mvT hZ (hw _ (List.mem_of_getElem? (i := 59) rfl))) (mvT hZ (hw _ (List.mem_of_getElem? (i := 60) rfl))) (by decide) (mvT hZ (hw _ (List.mem_of_getElem? (i := 62) rfl))) (mvT hZ (hw _ (List.mem_of_getElem? (i := 61) rfl))) (backOf (W := 0) (rm_6a l Z a0 hw [] a1 fa kk hs h0 n0 Z0 E_a1 F_spares F_fieldsPerRecord F_inUse F_end F_fields H_fa g_a1 g_fa hne) hZ (hw _ (List.mem_of_getElem? (i := 63) rfl)) (hw _ (List.mem_of_getElem? (i := 17) rfl)) (by decide) (by decide)) q32a q32c (g := (mkF m 1 #[.val (.ref a1), .val (.long q2), .second, .val (.long q3), .second, .unset] [(.ref a1)])) rfl (by rw [hml]; rfl) (Steps.refl _) (argsL := []) (rest := []) (lenOf pd___I rfl) rfl (by show 2 * 0 + _ ≤ _; exact Nat.le_of_eq rfl) (hb hby d5_1) (fun _ _ => ⟨rfl, e0, (by decide : 0 + 0 ≤ _), (by decide : 0 + 0 ≤ _)⟩)
  dsimp only [Pt.U, Pt.locs, Pt.cells, Pt.slots] at X32 l32 y32 z32 st32 hQ32
  subst l32 y32 z32
  obtain ⟨rfl, N32q, K32q, E32q, F032q, F132q, F232q, F332q, Ff32q⟩ := hQ32
  have N32 := Fr.app N0 N32q
  have K32 : Keep h0 T32.heap [a1, fa] := K0.trans K32q (allS (P := fun x => x ∈ [a1, fa] ∨ h0.size ≤ x) (Or.inl (List.mem_of_getElem? (i := 0) rfl)) all0)
  have Z32 : n0 ≤ T32.heap.size := (Nat.le_trans Z0 K32q.1)
  obtain ⟨T33, X33, e33, st33⟩ := getF X32 hx hZ hown (host := "") (Or.inl (hw _ (List.mem_of_getElem? (i := 68) rfl))) (Via.of (hw _ (List.mem_of_getElem? (i := 69) rfl))) rfl Ff32q (g := (mkF m 7 #[.val (.ref a1), .val (.long q2), .second, .val (.long q3), .second, .val (.int (0 : Int32))] [(.ref a1)])) rfl rfl (hb hby d5_7)
  obtain ⟨c34, Arc34, qc34, Sc34, Mc34, Hsc34, Gc34⟩ := id (H_fa.keep K32q (ninS (Ne.symm hne) nin0))
  have hinc34 : ¬ ((7 : Int32) < 0 ∨ c34.slots.size ≤ ((7 : Int32)).toNatClampNeg) := inb_of Sc34 ⟨by decide, by decide⟩
  obtain ⟨T35, h35, X35, e35, W35, st35⟩ := stJ X33 hx hZ e33 Arc34 (j := (7 : Int32)) hinc34 (g := (mkF m 16 #[.val (.ref a1), .val (.long q2), .second, .val (.long q3), .second, .val (.int (0 : Int32))] [(.long q2), (.int (7 : Int32)), (.ref fa)])) rfl rfl (hb hby d5_16)
  have V35 := Arh.push Arc34 qc34 Sc34 Mc34 Hsc34 Gc34 rfl W35 hinc34
  have K35 : Keep h0 h35 [a1, fa] := K32.wr W35 (Or.inl (List.mem_of_getElem? (i := 1) rfl))
  have N35 := Fr.snoc X35 N32 g_fa
  have Z35 : n0 ≤ h35.size := (Nat.le_trans Z32 (Nat.le_of_eq (Wr.size W35).symm))
  obtain ⟨T36, X36, e36, st36⟩ := getF X35 hx hZ hown (host := "") (Or.inl (hw _ (List.mem_of_getElem? (i := 68) rfl))) (Via.of (hw _ (List.mem_of_getElem? (i := 69) rfl))) e35 (Ff32q.other W35 (Or.inl hne)) (g := (mkF m 18 #[.val (.ref a1), .val (.long q2), .second, .val (.long q3), .second, .val (.int (0 : Int32))] [(.ref a1)])) rfl rfl (hb hby d5_18)
  obtain ⟨c37, Arc37, qc37, Sc37, Mc37, Hsc37, Gc37⟩ := id V35
  have hinc37 : ¬ ((0 : Int32) < 0 ∨ c37.slots.size ≤ ((0 : Int32)).toNatClampNeg) := inb_of Sc37 ⟨by decide, by decide⟩
  obtain ⟨T38, h38, X38, e38, W38, st38⟩ := stJ X36 hx hZ e36 Arc37 (j := (0 : Int32)) hinc37 (g := (mkF m 26 #[.val (.ref a1), .val (.long q2), .second, .val (.long q3), .second, .val (.int (0 : Int32))] [(.long q3), (.int (0 : Int32)), (.ref fa)])) rfl rfl (hb hby d5_26)
  have V38 := Arh.push Arc37 qc37 Sc37 Mc37 Hsc37 Gc37 rfl W38 hinc37
  have K38 : Keep h0 h38 [a1, fa] := K35.wr W38 (Or.inl (List.mem_of_getElem? (i := 1) rfl))
  have N38 := Fr.snoc X38 N35 g_fa
  have Z38 : n0 ≤ h38.size := (Nat.le_trans Z35 (Nat.le_of_eq (Wr.size W38).symm))
  obtain ⟨T39, X39, e39, st39⟩ := getF X38 hx hZ hown (host := "") (Or.inl (hw _ (List.mem_of_getElem? (i := 68) rfl))) (Via.of (hw _ (List.mem_of_getElem? (i := 69) rfl))) e38 ((Ff32q.other W35 (Or.inl hne)).other W38 (Or.inl hne)) (g := (mkF m 28 #[.val (.ref a1), .val (.long q2), .second, .val (.long q3), .second, .val (.int (0 : Int32))] [(.ref a1)])) rfl rfl (hb hby d5_28)
  obtain ⟨c40, Arc40, qc40, Sc40, Mc40, Hsc40, Gc40⟩ := id V38
  have hinc40 : ¬ ((9 : Int32) < 0 ∨ c40.slots.size ≤ ((9 : Int32)).toNatClampNeg) := inb_of Sc40 ⟨by decide, by decide⟩
  obtain ⟨T41, h41, X41, e41, W41, st41⟩ := stJ X39 hx hZ e39 Arc40 (j := (9 : Int32)) hinc40 (g := (mkF m 39 #[.val (.ref a1), .val (.long q2), .second, .val (.long q3), .second, .val (.int (0 : Int32))] [(.long (-2147483648 : Int64)), (.int (9 : Int32)), (.ref fa)])) rfl rfl (hb hby d5_39)
  have V41 := Arh.push Arc40 qc40 Sc40 Mc40 Hsc40 Gc40 rfl W41 hinc40
  have K41 : Keep h0 h41 [a1, fa] := K38.wr W41 (Or.inl (List.mem_of_getElem? (i := 1) rfl))
  have N41 := Fr.snoc X41 N38 g_fa
  have Z41 : n0 ≤ h41.size := (Nat.le_trans Z38 (Nat.le_of_eq (Wr.size W41).symm))
  obtain ⟨fs, hr, hrun, hended, hW, hsame⟩ := X41.leave (v := some (.int (0 : Int32))) (fun h => by rw [Bd.returns] at h; cases h)
  refine ⟨_, _, pw0 _ ?_, hrun, hended, _, _, rfl, ?_, ⟨_, rfl⟩, hW, hsame.mono (by decide) (by decide)⟩
  · skip
    refine XS.aloadN X0.here hx rfl (hb hby d5_0) rfl rfl ?_
    show Steps p.tables e below (s₁.setTop (mkF m 1 #[.val (.ref a1), .val (.long q2), .second, .val (.long q3), .second, .unset] [(.ref a1)])) _
    refine st32.trans ?_
    show Steps p.tables e below (T32.setTop (mkF m 4 #[.val (.ref a1), .val (.long q2), .second, .val (.long q3), .second, .unset] [(.int (0 : Int32))])) _
    refine XS.istore X32.here hx rfl (hb hby d5_4) rfl (l' := #[.val (.ref a1), .val (.long q2), .second, .val (.long q3), .second, .val (.int (0 : Int32))]) rfl ?_
    show Steps p.tables e below (T32.setTop (mkF m 6 #[.val (.ref a1), .val (.long q2), .second, .val (.long q3), .second, .val (.int (0 : Int32))] [])) _
    refine XS.aloadN X32.here hx rfl (hb hby d5_6) rfl rfl ?_
    show Steps p.tables e below (T32.setTop (mkF m 7 #[.val (.ref a1), .val (.long q2), .second, .val (.long q3), .second, .val (.int (0 : Int32))] [(.ref a1)])) _
    refine st33 _ ?_
    show Steps p.tables e below (T33.setTop (mkF m 10 #[.val (.ref a1), .val (.long q2), .second, .val (.long q3), .second, .val (.int (0 : Int32))] [(.ref fa)])) _
    refine XS.iload X33.here hx rfl (hb hby d5_10) rfl ?_
    show Steps p.tables e below (T33.setTop (mkF m 12 #[.val (.ref a1), .val (.long q2), .second, .val (.long q3), .second, .val (.int (0 : Int32))] [(.int (0 : Int32)), (.ref fa)])) _
    refine XS.bipush X33.here hx rfl (hb hby d5_12) ?_
    show Steps p.tables e below (T33.setTop (mkF m 14 #[.val (.ref a1), .val (.long q2), .second, .val (.long q3), .second, .val (.int (0 : Int32))] [(.int (7 : Int32)), (.int (0 : Int32)), (.ref fa)])) _
    refine XS.iadd X33.here hx rfl (hb hby d5_14) rfl ?_
    show Steps p.tables e below (T33.setTop (mkF m 15 #[.val (.ref a1), .val (.long q2), .second, .val (.long q3), .second, .val (.int (0 : Int32))] [(.int (7 : Int32)), (.ref fa)])) _
    refine XS.lloadN X33.here hx rfl (hb hby d5_15) rfl ?_
    show Steps p.tables e below (T33.setTop (mkF m 16 #[.val (.ref a1), .val (.long q2), .second, .val (.long q3), .second, .val (.int (0 : Int32))] [(.long q2), (.int (7 : Int32)), (.ref fa)])) _
    refine st35 _ ?_
    show Steps p.tables e below (T35.setTop (mkF m 17 #[.val (.ref a1), .val (.long q2), .second, .val (.long q3), .second, .val (.int (0 : Int32))] [])) _
    refine XS.aloadN X35.here hx rfl (hb hby d5_17) rfl rfl ?_
    show Steps p.tables e below (T35.setTop (mkF m 18 #[.val (.ref a1), .val (.long q2), .second, .val (.long q3), .second, .val (.int (0 : Int32))] [(.ref a1)])) _
    refine st36 _ ?_
    show Steps p.tables e below (T36.setTop (mkF m 21 #[.val (.ref a1), .val (.long q2), .second, .val (.long q3), .second, .val (.int (0 : Int32))] [(.ref fa)])) _
    refine XS.iload X36.here hx rfl (hb hby d5_21) rfl ?_
    show Steps p.tables e below (T36.setTop (mkF m 23 #[.val (.ref a1), .val (.long q2), .second, .val (.long q3), .second, .val (.int (0 : Int32))] [(.int (0 : Int32)), (.ref fa)])) _
    refine XS.iconst X36.here hx rfl (hb hby d5_23) ?_
    show Steps p.tables e below (T36.setTop (mkF m 24 #[.val (.ref a1), .val (.long q2), .second, .val (.long q3), .second, .val (.int (0 : Int32))] [(.int (0 : Int32)), (.int (0 : Int32)), (.ref fa)])) _
    refine XS.iadd X36.here hx rfl (hb hby d5_24) rfl ?_
    show Steps p.tables e below (T36.setTop (mkF m 25 #[.val (.ref a1), .val (.long q2), .second, .val (.long q3), .second, .val (.int (0 : Int32))] [(.int (0 : Int32)), (.ref fa)])) _
    refine XS.lloadN X36.here hx rfl (hb hby d5_25) rfl ?_
    show Steps p.tables e below (T36.setTop (mkF m 26 #[.val (.ref a1), .val (.long q2), .second, .val (.long q3), .second, .val (.int (0 : Int32))] [(.long q3), (.int (0 : Int32)), (.ref fa)])) _
    refine st38 _ ?_
    show Steps p.tables e below (T38.setTop (mkF m 27 #[.val (.ref a1), .val (.long q2), .second, .val (.long q3), .second, .val (.int (0 : Int32))] [])) _
    refine XS.aloadN X38.here hx rfl (hb hby d5_27) rfl rfl ?_
    show Steps p.tables e below (T38.setTop (mkF m 28 #[.val (.ref a1), .val (.long q2), .second, .val (.long q3), .second, .val (.int (0 : Int32))] [(.ref a1)])) _
    refine st39 _ ?_
    show Steps p.tables e below (T39.setTop (mkF m 31 #[.val (.ref a1), .val (.long q2), .second, .val (.long q3), .second, .val (.int (0 : Int32))] [(.ref fa)])) _
    refine XS.iload X39.here hx rfl (hb hby d5_31) rfl ?_
    show Steps p.tables e below (T39.setTop (mkF m 33 #[.val (.ref a1), .val (.long q2), .second, .val (.long q3), .second, .val (.int (0 : Int32))] [(.int (0 : Int32)), (.ref fa)])) _
    refine XS.bipush X39.here hx rfl (hb hby d5_33) ?_
    show Steps p.tables e below (T39.setTop (mkF m 35 #[.val (.ref a1), .val (.long q2), .second, .val (.long q3), .second, .val (.int (0 : Int32))] [(.int (9 : Int32)), (.int (0 : Int32)), (.ref fa)])) _
    refine XS.iadd X39.here hx rfl (hb hby d5_35) rfl ?_
    show Steps p.tables e below (T39.setTop (mkF m 36 #[.val (.ref a1), .val (.long q2), .second, .val (.long q3), .second, .val (.int (0 : Int32))] [(.int (9 : Int32)), (.ref fa)])) _
    refine X39.ldc2Long hx hown (mvT hZ (hw _ (List.mem_of_getElem? (i := 70) rfl))) (g := (mkF m 36 #[.val (.ref a1), .val (.long q2), .second, .val (.long q3), .second, .val (.int (0 : Int32))] [(.int (9 : Int32)), (.ref fa)])) rfl (hb hby d5_36) _ ?_
    show Steps p.tables e below (T39.setTop (mkF m 39 #[.val (.ref a1), .val (.long q2), .second, .val (.long q3), .second, .val (.int (0 : Int32))] [(.long (-2147483648 : Int64)), (.int (9 : Int32)), (.ref fa)])) _
    refine st41 _ ?_
    show Steps p.tables e below (T41.setTop (mkF m 40 #[.val (.ref a1), .val (.long q2), .second, .val (.long q3), .second, .val (.int (0 : Int32))] [])) _
    refine XS.iload X41.here hx rfl (hb hby d5_40) rfl ?_
    show Steps p.tables e below (T41.setTop (mkF m 42 #[.val (.ref a1), .val (.long q2), .second, .val (.long q3), .second, .val (.int (0 : Int32))] [(.int (0 : Int32))])) _
    exact retI X41 hx Bd.returns (hb hby d5_42) hr
  · show Q_5a Z a1 q2 q3 fa kk hs h0 n0 _ T41.heap _
    rw [e41]
    exact ⟨rfl, N41, K41, (((E32q.wr W35).wr W38).wr W41), (((F032q.other W35 (Or.inl hne)).other W38 (Or.inl hne)).other W41 (Or.inl hne)), (((F132q.other W35 (Or.inl hne)).other W38 (Or.inl hne)).other W41 (Or.inl hne)), (((F232q.other W35 (Or.inl hne)).other W38 (Or.inl hne)).other W41 (Or.inl hne)), (((F332q.other W35 (Or.inl hne)).other W38 (Or.inl hne)).other W41 (Or.inl hne)), (((Ff32q.other W35 (Or.inl hne)).other W38 (Or.inl hne)).other W41 (Or.inl hne)), V41⟩
theorem ef_6b (m : MethodId) (x0 : Addr) : entryFrame m #[(.ref x0)] 3 = mkF m 0 #[.val (.ref x0), .unset, .unset] [] := by first | (simp [entryFrame, mkF, argsToLocals, Value.category]; done) | rfl
def Q_6b (Z : State) (a1 : Addr) (fa : Addr) (kk : ClassId) (hs : List (Int32 × Value)) (h0 : Heap) (n0 : Nat) (v : Option Value) (h : Heap) (L : List Loc) : Prop := v = some (.int (14 : Int32)) ∧ Fr n0 L ∧ Keep h0 h [a1] ∧ Exa Z h a1 "com/example/matchwright/matchwright/book/LevelPool" ∧ Fld Z h a1 "com/example/matchwright/matchwright/book/RecordPool" "spares" "I" (.int (-2147483648 : Int32)) ∧ Fld Z h a1 "com/example/matchwright/matchwright/book/RecordPool" "fieldsPerRecord" "I" (.int (14 : Int32)) ∧ Fld Z h a1 "com/example/matchwright/matchwright/book/RecordPool" "inUse" "I" (.int (2 : Int32)) ∧ Fld Z h a1 "com/example/matchwright/matchwright/book/RecordPool" "end" "I" (.int (28 : Int32)) ∧ Fld Z h a1 "com/example/matchwright/matchwright/book/RecordPool" "fields" "[J" (.ref fa)
set_option maxRecDepth 65536 in
set_option maxHeartbeats 40000000 in
theorem rm_6b (l : Launch) (Z : State) (a0 : Array Value) (hw : ∀ d ∈ tables_1, d.before a0 Z = true) (ws : List Jvm.Cond) (a1 : Addr) (fa : Addr) (kk : ClassId) (hs : List (Int32 × Value)) (h0 : Heap) (n0 : Nat) (Z0 : n0 ≤ h0.size) (E_a1 : Exa Z h0 a1 "com/example/matchwright/matchwright/book/LevelPool") (F_spares : Fld Z h0 a1 "com/example/matchwright/matchwright/book/RecordPool" "spares" "I" (.int (-2147483648 : Int32))) (F_fieldsPerRecord : Fld Z h0 a1 "com/example/matchwright/matchwright/book/RecordPool" "fieldsPerRecord" "I" (.int (14 : Int32))) (F_inUse : Fld Z h0 a1 "com/example/matchwright/matchwright/book/RecordPool" "inUse" "I" (.int (1 : Int32))) (F_end : Fld Z h0 a1 "com/example/matchwright/matchwright/book/RecordPool" "end" "I" (.int (14 : Int32))) (F_fields : Fld Z h0 a1 "com/example/matchwright/matchwright/book/RecordPool" "fields" "[J" (.ref fa)) (H_fa : Arh Z h0 fa kk .long (224 : Int32) hs [] (.long (0 : Int64))) (g_a1 : n0 ≤ a1) (g_fa : n0 ≤ fa) (hne : a1 ≠ fa) :
    MetFree l (⟨"com/example/matchwright/matchwright/book/RecordPool", "takeRecord", "()I"⟩ : MethodName) (head1 (Jvm.Cond.code (⟨"com/example/matchwright/matchwright/book/RecordPool", "takeRecord", "()I"⟩ : MethodName) prog_9_method_2_code 3 (some .int) :: ws) ({ frames := 0, cells := 0, slots := 0, locals := 0 } : Room)) (fun a U => a = #[(.ref a1)] ∧ Z.Warmed39 U.vm ∧ U.heap = h0) (fun _ _ _ _ _ => True) (fun _ U o U' => ∃ v L, o = .returned v ∧ Q_6b Z a1 fa kk hs h0 n0 v U'.heap L ∧ FrameEnd U o U' L ({ frames := 0, cells := 0, slots := 0, locals := 0 } : Room).cells ({ frames := 0, cells := 0, slots := 0, locals := 0 } : Room).slots) := by
  refine MetFree.of_bodySF (plainFor_of_name pn_com_example_matchwright_matchwright_book_RecordPool) hisR ?_
  intro p e s m args below meth c s₁ Bd hml0 hP hK
  obtain ⟨rfl, hZ, hh⟩ := hP
  have hx := Bd.exec
  have hby := Bd.bytes
  have hml : c.maxLocals = 3 := hml0
  have hown : s.vm.findClass "com/example/matchwright/matchwright/book/RecordPool" = some m.cls := findClass_of_methodNamed Bd.named
  have hnm := (name_of_methodNamed Bd.named Bd.method).1
  have X0 : Stand p l e ({ frames := 0, cells := 0, slots := 0, locals := 0 } : Room) s m #[(.ref a1)] below meth c s₁ [] 0 0 := Stand.of_body Bd
  have e0 : s₁.heap = h0 := by rw [← hh, Bd.state]; rfl
  have N0 := Fr.nil n0
  have pw0 : ∀ t, Steps p.tables e below (s₁.setTop (mkF m 0 #[.val (.ref a1), .unset, .unset] [])) t → Steps p.tables e below (s₁.setTop (entryFrame m #[(.ref a1)] 3)) t := fun t k => castTop (ef_6b m a1) k
  have K0 : Keep h0 h0 [a1] := Keep.refl h0 [a1]
  obtain ⟨T42, X42, e42, st42⟩ := getF X0 hx hZ hown (host := "") (Or.inl (hw _ (List.mem_of_getElem? (i := 64) rfl))) Via.refl e0 F_inUse (g := (mkF m 2 #[.val (.ref a1), .unset, .unset] [(.ref a1), (.ref a1)])) rfl rfl (hb hby d6_2)
  obtain ⟨T43, h43, X43, e43, W43, st43⟩ := putF X42 hx hZ hown (host := "") (Or.inl (hw _ (List.mem_of_getElem? (i := 64) rfl))) Via.refl e42 F_inUse E_a1 (Or.inl (hw _ (List.mem_of_getElem? (i := 65) rfl))) (hw _ (List.mem_of_getElem? (i := 38) rfl)) (ty := .int) (by decide) rfl rfl (g := (mkF m 7 #[.val (.ref a1), .unset, .unset] [(.int (2 : Int32)), (.ref a1)])) rfl rfl (hb hby d6_7)
  have Fw43 := F_inUse.same W43
  have K43 : Keep h0 h43 [a1] := K0.wr W43 (Or.inl (List.mem_of_getElem? (i := 0) rfl))
  have N43 := Fr.snoc X43 N0 g_a1
  have Z43 : n0 ≤ h43.size := (Nat.le_trans Z0 (Nat.le_of_eq (Wr.size W43).symm))
  obtain ⟨T44, X44, e44, st44⟩ := getF X43 hx hZ hown (host := "") (Or.inl (hw _ (List.mem_of_getElem? (i := 23) rfl))) Via.refl e43 (F_spares.other W43 (Or.inr (slot_ne (Or.inl (hw _ (List.mem_of_getElem? (i := 45) rfl))) (Or.inl (hw _ (List.mem_of_getElem? (i := 65) rfl))) (by decide) (t := .int) (t' := .int) (by decide) (by decide)))) (g := (mkF m 11 #[.val (.ref a1), .unset, .unset] [(.ref a1)])) rfl rfl (hb hby d6_11)
  obtain ⟨T45, X45, e45, st45⟩ := getF X44 hx hZ hown (host := "") (Or.inl (hw _ (List.mem_of_getElem? (i := 66) rfl))) Via.refl e44 (F_end.other W43 (Or.inr (slot_ne (Or.inl (hw _ (List.mem_of_getElem? (i := 67) rfl))) (Or.inl (hw _ (List.mem_of_getElem? (i := 65) rfl))) (by decide) (t := .int) (t' := .int) (by decide) (by decide)))) (g := (mkF m 40 #[.val (.ref a1), .val (.int (-2147483648 : Int32)), .unset] [(.ref a1)])) rfl rfl (hb hby d6_40)
  obtain ⟨T46, X46, e46, st46⟩ := getF X45 hx hZ hown (host := "") (Or.inl (hw _ (List.mem_of_getElem? (i := 35) rfl))) Via.refl e45 (F_fields.other W43 (Or.inr (slot_ne (Or.inl (hw _ (List.mem_of_getElem? (i := 50) rfl))) (Or.inl (hw _ (List.mem_of_getElem? (i := 65) rfl))) (by decide) (t := (.array .long)) (t' := .int) (by decide) (by decide)))) (g := (mkF m 44 #[.val (.ref a1), .val (.int (-2147483648 : Int32)), .unset] [(.ref a1), (.int (14 : Int32))])) rfl rfl (hb hby d6_44)
  obtain ⟨c47, Arc47, qc47, Sc47, Mc47, Hsc47, Gc47⟩ := id (H_fa.other W43 (Ne.symm hne))
  obtain ⟨T48, X48, e48, st48⟩ := getF X46 hx hZ hown (host := "") (Or.inl (hw _ (List.mem_of_getElem? (i := 66) rfl))) Via.refl e46 (F_end.other W43 (Or.inr (slot_ne (Or.inl (hw _ (List.mem_of_getElem? (i := 67) rfl))) (Or.inl (hw _ (List.mem_of_getElem? (i := 65) rfl))) (by decide) (t := .int) (t' := .int) (by decide) (by decide)))) (g := (mkF m 56 #[.val (.ref a1), .val (.int (-2147483648 : Int32)), .unset] [(.ref a1)])) rfl rfl (hb hby d6_56)
  obtain ⟨T49, X49, e49, st49⟩ := getF X48 hx hZ hown (host := "") (Or.inl (hw _ (List.mem_of_getElem? (i := 66) rfl))) Via.refl e48 (F_end.other W43 (Or.inr (slot_ne (Or.inl (hw _ (List.mem_of_getElem? (i := 67) rfl))) (Or.inl (hw _ (List.mem_of_getElem? (i := 65) rfl))) (by decide) (t := .int) (t' := .int) (by decide) (by decide)))) (g := (mkF m 62 #[.val (.ref a1), .val (.int (-2147483648 : Int32)), .val (.int (14 : Int32))] [(.ref a1), (.ref a1)])) rfl rfl (hb hby d6_62)
  obtain ⟨T50, X50, e50, st50⟩ := getF X49 hx hZ hown (host := "") (Or.inl (hw _ (List.mem_of_getElem? (i := 25) rfl))) Via.refl e49 (F_fieldsPerRecord.other W43 (Or.inr (slot_ne (Or.inr (hw _ (List.mem_of_getElem? (i := 46) rfl))) (Or.inl (hw _ (List.mem_of_getElem? (i := 65) rfl))) (by decide) (t := .int) (t' := .int) (by decide) (by decide)))) (g := (mkF m 66 #[.val (.ref a1), .val (.int (-2147483648 : Int32)), .val (.int (14 : Int32))] [(.ref a1), (.int (14 : Int32)), (.ref a1)])) rfl rfl (hb hby d6_66)
  obtain ⟨T51, h51, X51, e51, W51, st51⟩ := putF X50 hx hZ hown (host := "") (Or.inl (hw _ (List.mem_of_getElem? (i := 66) rfl))) Via.refl e50 (F_end.other W43 (Or.inr (slot_ne (Or.inl (hw _ (List.mem_of_getElem? (i := 67) rfl))) (Or.inl (hw _ (List.mem_of_getElem? (i := 65) rfl))) (by decide) (t := .int) (t' := .int) (by decide) (by decide)))) (E_a1.wr W43) (Or.inl (hw _ (List.mem_of_getElem? (i := 67) rfl))) (hw _ (List.mem_of_getElem? (i := 38) rfl)) (ty := .int) (by decide) rfl rfl (g := (mkF m 70 #[.val (.ref a1), .val (.int (-2147483648 : Int32)), .val (.int (14 : Int32))] [(.int (28 : Int32)), (.ref a1)])) rfl rfl (hb hby d6_70)
  have Fw51 := (F_end.other W43 (Or.inr (slot_ne (Or.inl (hw _ (List.mem_of_getElem? (i := 67) rfl))) (Or.inl (hw _ (List.mem_of_getElem? (i := 65) rfl))) (by decide) (t := .int) (t' := .int) (by decide) (by decide)))).same W51
  have K51 : Keep h0 h51 [a1] := K43.wr W51 (Or.inl (List.mem_of_getElem? (i := 0) rfl))
  have N51 := Fr.snoc X51 N43 g_a1
  have Z51 : n0 ≤ h51.size := (Nat.le_trans Z43 (Nat.le_of_eq (Wr.size W51).symm))
  obtain ⟨fs, hr, hrun, hended, hW, hsame⟩ := X51.leave (v := some (.int (14 : Int32))) (fun h => by rw [Bd.returns] at h; cases h)
  refine ⟨_, _, pw0 _ ?_, hrun, hended, _, _, rfl, ?_, ⟨_, rfl⟩, hW, hsame.mono (by decide) (by decide)⟩
  · skip
    refine XS.aloadN X0.here hx rfl (hb hby d6_0) rfl rfl ?_
    show Steps p.tables e below (s₁.setTop (mkF m 1 #[.val (.ref a1), .unset, .unset] [(.ref a1)])) _
    refine XS.dup X0.here hx rfl (hb hby d6_1) rfl rfl ?_
    show Steps p.tables e below (s₁.setTop (mkF m 2 #[.val (.ref a1), .unset, .unset] [(.ref a1), (.ref a1)])) _
    refine st42 _ ?_
    show Steps p.tables e below (T42.setTop (mkF m 5 #[.val (.ref a1), .unset, .unset] [(.int (1 : Int32)), (.ref a1)])) _
    refine XS.iconst X42.here hx rfl (hb hby d6_5) ?_
    show Steps p.tables e below (T42.setTop (mkF m 6 #[.val (.ref a1), .unset, .unset] [(.int (1 : Int32)), (.int (1 : Int32)), (.ref a1)])) _
    refine XS.iadd X42.here hx rfl (hb hby d6_6) rfl ?_
    show Steps p.tables e below (T42.setTop (mkF m 7 #[.val (.ref a1), .unset, .unset] [(.int (2 : Int32)), (.ref a1)])) _
    refine st43 _ ?_
    show Steps p.tables e below (T43.setTop (mkF m 10 #[.val (.ref a1), .unset, .unset] [])) _
    refine XS.aloadN X43.here hx rfl (hb hby d6_10) rfl rfl ?_
    show Steps p.tables e below (T43.setTop (mkF m 11 #[.val (.ref a1), .unset, .unset] [(.ref a1)])) _
    refine st44 _ ?_
    show Steps p.tables e below (T44.setTop (mkF m 14 #[.val (.ref a1), .unset, .unset] [(.int (-2147483648 : Int32))])) _
    refine XS.istoreN X44.here hx rfl (hb hby d6_14) rfl (l' := #[.val (.ref a1), .val (.int (-2147483648 : Int32)), .unset]) rfl ?_
    show Steps p.tables e below (T44.setTop (mkF m 15 #[.val (.ref a1), .val (.int (-2147483648 : Int32)), .unset] [])) _
    refine XS.iloadN X44.here hx rfl (hb hby d6_15) rfl ?_
    show Steps p.tables e below (T44.setTop (mkF m 16 #[.val (.ref a1), .val (.int (-2147483648 : Int32)), .unset] [(.int (-2147483648 : Int32))])) _
    refine X44.ldcInt hx hown (mvT hZ (hw _ (List.mem_of_getElem? (i := 22) rfl))) (g := (mkF m 16 #[.val (.ref a1), .val (.int (-2147483648 : Int32)), .unset] [(.int (-2147483648 : Int32))])) rfl (hb hby d6_16) _ ?_
    show Steps p.tables e below (T44.setTop (mkF m 18 #[.val (.ref a1), .val (.int (-2147483648 : Int32)), .unset] [(.int (-2147483648 : Int32)), (.int (-2147483648 : Int32))])) _
    refine XS.icmpYes X44.here hx rfl (pc0 := 18) (pc' := 39) rfl (hb hby d6_18) rfl (teq (by decide : (-2147483648 : Int32) = (-2147483648 : Int32))).1 (by decide) (by decide) ?_
    show Steps p.tables e below (T44.setTop (mkF m 39 #[.val (.ref a1), .val (.int (-2147483648 : Int32)), .unset] [])) _
    refine XS.aloadN X44.here hx rfl (hb hby d6_39) rfl rfl ?_
    show Steps p.tables e below (T44.setTop (mkF m 40 #[.val (.ref a1), .val (.int (-2147483648 : Int32)), .unset] [(.ref a1)])) _
    refine st45 _ ?_
    show Steps p.tables e below (T45.setTop (mkF m 43 #[.val (.ref a1), .val (.int (-2147483648 : Int32)), .unset] [(.int (14 : Int32))])) _
    refine XS.aloadN X45.here hx rfl (hb hby d6_43) rfl rfl ?_
    show Steps p.tables e below (T45.setTop (mkF m 44 #[.val (.ref a1), .val (.int (-2147483648 : Int32)), .unset] [(.ref a1), (.int (14 : Int32))])) _
    refine st46 _ ?_
    show Steps p.tables e below (T46.setTop (mkF m 47 #[.val (.ref a1), .val (.int (-2147483648 : Int32)), .unset] [(.ref fa), (.int (14 : Int32))])) _
    refine X46.arraylength hx (by rw [e46]; exact Arc47.1) (State.isArrayOf_alike hZ.alike Arc47.2.1) (g := (mkF m 47 #[.val (.ref a1), .val (.int (-2147483648 : Int32)), .unset] [(.ref fa), (.int (14 : Int32))])) rfl rfl (hb hby d6_47) _ ?_
    rw [len_of Sc47 Mc47]
    show Steps p.tables e below (T46.setTop (mkF m 48 #[.val (.ref a1), .val (.int (-2147483648 : Int32)), .unset] [(.int (224 : Int32)), (.int (14 : Int32))])) _
    refine XS.icmpYes X46.here hx rfl (pc0 := 48) (pc' := 55) rfl (hb hby d6_48) rfl (feq (by decide : ¬ ((14 : Int32) = (224 : Int32)))).2 (by decide) (by decide) ?_
    show Steps p.tables e below (T46.setTop (mkF m 55 #[.val (.ref a1), .val (.int (-2147483648 : Int32)), .unset] [])) _
    refine XS.aloadN X46.here hx rfl (hb hby d6_55) rfl rfl ?_
    show Steps p.tables e below (T46.setTop (mkF m 56 #[.val (.ref a1), .val (.int (-2147483648 : Int32)), .unset] [(.ref a1)])) _
    refine st48 _ ?_
    show Steps p.tables e below (T48.setTop (mkF m 59 #[.val (.ref a1), .val (.int (-2147483648 : Int32)), .unset] [(.int (14 : Int32))])) _
    refine XS.istoreN X48.here hx rfl (hb hby d6_59) rfl (l' := #[.val (.ref a1), .val (.int (-2147483648 : Int32)), .val (.int (14 : Int32))]) rfl ?_
    show Steps p.tables e below (T48.setTop (mkF m 60 #[.val (.ref a1), .val (.int (-2147483648 : Int32)), .val (.int (14 : Int32))] [])) _
    refine XS.aloadN X48.here hx rfl (hb hby d6_60) rfl rfl ?_
    show Steps p.tables e below (T48.setTop (mkF m 61 #[.val (.ref a1), .val (.int (-2147483648 : Int32)), .val (.int (14 : Int32))] [(.ref a1)])) _
    refine XS.dup X48.here hx rfl (hb hby d6_61) rfl rfl ?_
    show Steps p.tables e below (T48.setTop (mkF m 62 #[.val (.ref a1), .val (.int (-2147483648 : Int32)), .val (.int (14 : Int32))] [(.ref a1), (.ref a1)])) _
    refine st49 _ ?_
    show Steps p.tables e below (T49.setTop (mkF m 65 #[.val (.ref a1), .val (.int (-2147483648 : Int32)), .val (.int (14 : Int32))] [(.int (14 : Int32)), (.ref a1)])) _
    refine XS.aloadN X49.here hx rfl (hb hby d6_65) rfl rfl ?_
    show Steps p.tables e below (T49.setTop (mkF m 66 #[.val (.ref a1), .val (.int (-2147483648 : Int32)), .val (.int (14 : Int32))] [(.ref a1), (.int (14 : Int32)), (.ref a1)])) _
    refine st50 _ ?_
    show Steps p.tables e below (T50.setTop (mkF m 69 #[.val (.ref a1), .val (.int (-2147483648 : Int32)), .val (.int (14 : Int32))] [(.int (14 : Int32)), (.int (14 : Int32)), (.ref a1)])) _
    refine XS.iadd X50.here hx rfl (hb hby d6_69) rfl ?_
    show Steps p.tables e below (T50.setTop (mkF m 70 #[.val (.ref a1), .val (.int (-2147483648 : Int32)), .val (.int (14 : Int32))] [(.int (28 : Int32)), (.ref a1)])) _
    refine st51 _ ?_
    show Steps p.tables e below (T51.setTop (mkF m 73 #[.val (.ref a1), .val (.int (-2147483648 : Int32)), .val (.int (14 : Int32))] [])) _
    refine XS.iloadN X51.here hx rfl (hb hby d6_73) rfl ?_
    show Steps p.tables e below (T51.setTop (mkF m 74 #[.val (.ref a1), .val (.int (-2147483648 : Int32)), .val (.int (14 : Int32))] [(.int (14 : Int32))])) _
    exact retI X51 hx Bd.returns (hb hby d6_74) hr
  · show Q_6b Z a1 fa kk hs h0 n0 _ T51.heap _
    rw [e51]
    exact ⟨rfl, N51, K51, ((E_a1.wr W43).wr W51), ((F_spares.other W43 (Or.inr (slot_ne (Or.inl (hw _ (List.mem_of_getElem? (i := 45) rfl))) (Or.inl (hw _ (List.mem_of_getElem? (i := 65) rfl))) (by decide) (t := .int) (t' := .int) (by decide) (by decide)))).other W51 (Or.inr (slot_ne (Or.inl (hw _ (List.mem_of_getElem? (i := 45) rfl))) (Or.inl (hw _ (List.mem_of_getElem? (i := 67) rfl))) (by decide) (t := .int) (t' := .int) (by decide) (by decide)))), ((F_fieldsPerRecord.other W43 (Or.inr (slot_ne (Or.inr (hw _ (List.mem_of_getElem? (i := 46) rfl))) (Or.inl (hw _ (List.mem_of_getElem? (i := 65) rfl))) (by decide) (t := .int) (t' := .int) (by decide) (by decide)))).other W51 (Or.inr (slot_ne (Or.inr (hw _ (List.mem_of_getElem? (i := 46) rfl))) (Or.inl (hw _ (List.mem_of_getElem? (i := 67) rfl))) (by decide) (t := .int) (t' := .int) (by decide) (by decide)))), (Fw43.other W51 (Or.inr (slot_ne (Or.inl (hw _ (List.mem_of_getElem? (i := 65) rfl))) (Or.inl (hw _ (List.mem_of_getElem? (i := 67) rfl))) (by decide) (t := .int) (t' := .int) (by decide) (by decide)))), Fw51, ((F_fields.other W43 (Or.inr (slot_ne (Or.inl (hw _ (List.mem_of_getElem? (i := 50) rfl))) (Or.inl (hw _ (List.mem_of_getElem? (i := 65) rfl))) (by decide) (t := (.array .long)) (t' := .int) (by decide) (by decide)))).other W51 (Or.inr (slot_ne (Or.inl (hw _ (List.mem_of_getElem? (i := 50) rfl))) (Or.inl (hw _ (List.mem_of_getElem? (i := 67) rfl))) (by decide) (t := (.array .long)) (t' := .int) (by decide) (by decide))))⟩
theorem ef_5b (m : MethodId) (x0 : Addr) (x1 : Int64) (x2 : Int64) : entryFrame m #[(.ref x0), (.long x1), (.long x2)] 6 = mkF m 0 #[.val (.ref x0), .val (.long x1), .second, .val (.long x2), .second, .unset] [] := by first | (simp [entryFrame, mkF, argsToLocals, Value.category]; done) | rfl
def Q_5b (Z : State) (a1 : Addr) (q2 : Int64) (q3 : Int64) (fa : Addr) (kk : ClassId) (hs : List (Int32 × Value)) (h0 : Heap) (n0 : Nat) (v : Option Value) (h : Heap) (L : List Loc) : Prop := v = some (.int (14 : Int32)) ∧ Fr n0 L ∧ Keep h0 h [a1, fa] ∧ Exa Z h a1 "com/example/matchwright/matchwright/book/LevelPool" ∧ Fld Z h a1 "com/example/matchwright/matchwright/book/RecordPool" "spares" "I" (.int (-2147483648 : Int32)) ∧ Fld Z h a1 "com/example/matchwright/matchwright/book/RecordPool" "fieldsPerRecord" "I" (.int (14 : Int32)) ∧ Fld Z h a1 "com/example/matchwright/matchwright/book/RecordPool" "inUse" "I" (.int (2 : Int32)) ∧ Fld Z h a1 "com/example/matchwright/matchwright/book/RecordPool" "end" "I" (.int (28 : Int32)) ∧ Fld Z h a1 "com/example/matchwright/matchwright/book/RecordPool" "fields" "[J" (.ref fa) ∧ Arh Z h fa kk .long (224 : Int32) (((23 : Int32), .long (-2147483648 : Int64)) :: ((14 : Int32), .long q3) :: ((21 : Int32), .long q2) :: hs) [] (.long (0 : Int64))
set_option maxRecDepth 65536 in
set_option maxHeartbeats 40000000 in
theorem rm_5b (l : Launch) (Z : State) (a0 : Array Value) (hw : ∀ d ∈ tables_1, d.before a0 Z = true) (ws : List Jvm.Cond) (a1 : Addr) (q2 : Int64) (q3 : Int64) (fa : Addr) (kk : ClassId) (hs : List (Int32 × Value)) (h0 : Heap) (n0 : Nat) (Z0 : n0 ≤ h0.size) (E_a1 : Exa Z h0 a1 "com/example/matchwright/matchwright/book/LevelPool") (F_spares : Fld Z h0 a1 "com/example/matchwright/matchwright/book/RecordPool" "spares" "I" (.int (-2147483648 : Int32))) (F_fieldsPerRecord : Fld Z h0 a1 "com/example/matchwright/matchwright/book/RecordPool" "fieldsPerRecord" "I" (.int (14 : Int32))) (F_inUse : Fld Z h0 a1 "com/example/matchwright/matchwright/book/RecordPool" "inUse" "I" (.int (1 : Int32))) (F_end : Fld Z h0 a1 "com/example/matchwright/matchwright/book/RecordPool" "end" "I" (.int (14 : Int32))) (F_fields : Fld Z h0 a1 "com/example/matchwright/matchwright/book/RecordPool" "fields" "[J" (.ref fa)) (H_fa : Arh Z h0 fa kk .long (224 : Int32) hs [] (.long (0 : Int64))) (g_a1 : n0 ≤ a1) (g_fa : n0 ≤ fa) (hne : a1 ≠ fa) :
    MetFree l (⟨"com/example/matchwright/matchwright/book/LevelPool", "take", "(JJ)I"⟩ : MethodName) (head1 (Jvm.Cond.code (⟨"com/example/matchwright/matchwright/book/LevelPool", "take", "(JJ)I"⟩ : MethodName) prog_4_method_2_code 6 (some .int) :: ws) ({ frames := 1, cells := 0, slots := 0, locals := 14 } : Room)) (fun a U => a = #[(.ref a1), (.long q2), (.long q3)] ∧ Z.Warmed39 U.vm ∧ U.heap = h0) (fun _ _ _ _ _ => True) (fun _ U o U' => ∃ v L, o = .returned v ∧ Q_5b Z a1 q2 q3 fa kk hs h0 n0 v U'.heap L ∧ FrameEnd U o U' L ({ frames := 1, cells := 0, slots := 0, locals := 14 } : Room).cells ({ frames := 1, cells := 0, slots := 0, locals := 14 } : Room).slots) := by
  refine MetFree.of_bodySF (plainFor_of_name pn_com_example_matchwright_matchwright_book_LevelPool) hisR ?_
  intro p e s m args below meth c s₁ Bd hml0 hP hK
  obtain ⟨rfl, hZ, hh⟩ := hP
  have hx := Bd.exec
  have hby := Bd.bytes
  have hml : c.maxLocals = 6 := hml0
  have hown : s.vm.findClass "com/example/matchwright/matchwright/book/LevelPool" = some m.cls := findClass_of_methodNamed Bd.named
  have hnm := (name_of_methodNamed Bd.named Bd.method).1
  have X0 : Stand p l e ({ frames := 1, cells := 0, slots := 0, locals := 14 } : Room) s m #[(.ref a1), (.long q2), (.long q3)] below meth c s₁ [] 0 0 := Stand.of_body Bd
  have e0 : s₁.heap = h0 := by rw [← hh, Bd.state]; rfl
  have N0 := Fr.nil n0
  have pw0 : ∀ t, Steps p.tables e below (s₁.setTop (mkF m 0 #[.val (.ref a1), .val (.long q2), .second, .val (.long q3), .second, .unset] [])) t → Steps p.tables e below (s₁.setTop (entryFrame m #[(.ref a1), (.long q2), (.long q3)] 6)) t := fun t k => castTop (ef_5b m a1 q2 q3) k
  have K0 : Keep h0 h0 [a1, fa] := Keep.refl h0 [a1, fa]
  obtain ⟨cq52, kq52, q52a, q52b, q52c⟩ := isOf hZ e0 E_a1
  obtain ⟨_, _, ⟨T52, L52, k52, n52⟩, -, X52, ⟨Lc52, hQ52, l52, y52, z52⟩, st52⟩ := X0.virtualBackUp hx (owner := "com/example/matchwright/matchwright/book/RecordPool") (x := (⟨"com/example/matchwright/matchwright/book/LevelPool", "takeRecord", "()I"⟩ : MethodName)) (y := (⟨"com/example/matchwright/matchwright/book/RecordPool", "takeRecord", "()I"⟩ : MethodName)) hown (mvT hZ (hw _ (List.mem_of_getElem? (i := 58) rfl))) (mvT hZ (hw _ (List.mem_of_getElem? (i := 59) rfl))) (mvT hZ (hw _ (List.mem_of_getElem? (i := 60) rfl))) (by decide) (mvT hZ (hw _ (List.mem_of_getElem? (i := 62) rfl))) (mvT hZ (hw _ (List.mem_of_getElem? (i := 61) rfl))) (backOf (W := 0) (rm_6b l Z a0 hw [] a1 fa kk hs h0 n0 Z0 E_a1 F_spares F_fieldsPerRecord F_inUse F_end F_fields H_fa g_a1 g_fa hne) hZ (hw _ (List.mem_of_getElem? (i := 63) rfl)) (hw _ (List.mem_of_getElem? (i := 17) rfl)) (by decide) (by decide)) q52a q52c (g := (mkF m 1 #[.val (.ref a1), .val (.long q2), .second, .val (.long q3), .second, .unset] [(.ref a1)])) rfl (by rw [hml]; rfl) (Steps.refl _) (argsL := []) (rest := []) (lenOf pd___I rfl) rfl (by show 2 * 0 + _ ≤ _; exact Nat.le_of_eq rfl) (hb hby d5_1) (fun _ _ => ⟨rfl, e0, (by decide : 0 + 0 ≤ _), (by decide : 0 + 0 ≤ _)⟩)
  dsimp only [Pt.U, Pt.locs, Pt.cells, Pt.slots] at X52 l52 y52 z52 st52 hQ52
  subst l52 y52 z52
  obtain ⟨rfl, N52q, K52q, E52q, F052q, F152q, F252q, F352q, Ff52q⟩ := hQ52
  have N52 := Fr.app N0 N52q
  have K52 : Keep h0 T52.heap [a1, fa] := K0.trans K52q (allS (P := fun x => x ∈ [a1, fa] ∨ h0.size ≤ x) (Or.inl (List.mem_of_getElem? (i := 0) rfl)) all0)
  have Z52 : n0 ≤ T52.heap.size := (Nat.le_trans Z0 K52q.1)
  obtain ⟨T53, X53, e53, st53⟩ := getF X52 hx hZ hown (host := "") (Or.inl (hw _ (List.mem_of_getElem? (i := 68) rfl))) (Via.of (hw _ (List.mem_of_getElem? (i := 69) rfl))) rfl Ff52q (g := (mkF m 7 #[.val (.ref a1), .val (.long q2), .second, .val (.long q3), .second, .val (.int (14 : Int32))] [(.ref a1)])) rfl rfl (hb hby d5_7)
  obtain ⟨c54, Arc54, qc54, Sc54, Mc54, Hsc54, Gc54⟩ := id (H_fa.keep K52q (ninS (Ne.symm hne) nin0))
  have hinc54 : ¬ ((21 : Int32) < 0 ∨ c54.slots.size ≤ ((21 : Int32)).toNatClampNeg) := inb_of Sc54 ⟨by decide, by decide⟩
  obtain ⟨T55, h55, X55, e55, W55, st55⟩ := stJ X53 hx hZ e53 Arc54 (j := (21 : Int32)) hinc54 (g := (mkF m 16 #[.val (.ref a1), .val (.long q2), .second, .val (.long q3), .second, .val (.int (14 : Int32))] [(.long q2), (.int (21 : Int32)), (.ref fa)])) rfl rfl (hb hby d5_16)
  have V55 := Arh.push Arc54 qc54 Sc54 Mc54 Hsc54 Gc54 rfl W55 hinc54
  have K55 : Keep h0 h55 [a1, fa] := K52.wr W55 (Or.inl (List.mem_of_getElem? (i := 1) rfl))
  have N55 := Fr.snoc X55 N52 g_fa
  have Z55 : n0 ≤ h55.size := (Nat.le_trans Z52 (Nat.le_of_eq (Wr.size W55).symm))
  obtain ⟨T56, X56, e56, st56⟩ := getF X55 hx hZ hown (host := "") (Or.inl (hw _ (List.mem_of_getElem? (i := 68) rfl))) (Via.of (hw _ (List.mem_of_getElem? (i := 69) rfl))) e55 (Ff52q.other W55 (Or.inl hne)) (g := (mkF m 18 #[.val (.ref a1), .val (.long q2), .second, .val (.long q3), .second, .val (.int (14 : Int32))] [(.ref a1)])) rfl rfl (hb hby d5_18)
  obtain ⟨c57, Arc57, qc57, Sc57, Mc57, Hsc57, Gc57⟩ := id V55
  have hinc57 : ¬ ((14 : Int32) < 0 ∨ c57.slots.size ≤ ((14 : Int32)).toNatClampNeg) := inb_of Sc57 ⟨by decide, by decide⟩
  obtain ⟨T58, h58, X58, e58, W58, st58⟩ := stJ X56 hx hZ e56 Arc57 (j := (14 : Int32)) hinc57 (g := (mkF m 26 #[.val (.ref a1), .val (.long q2), .second, .val (.long q3), .second, .val (.int (14 : Int32))] [(.long q3), (.int (14 : Int32)), (.ref fa)])) rfl rfl (hb hby d5_26)
  have V58 := Arh.push Arc57 qc57 Sc57 Mc57 Hsc57 Gc57 rfl W58 hinc57
  have K58 : Keep h0 h58 [a1, fa] := K55.wr W58 (Or.inl (List.mem_of_getElem? (i := 1) rfl))
  have N58 := Fr.snoc X58 N55 g_fa
  have Z58 : n0 ≤ h58.size := (Nat.le_trans Z55 (Nat.le_of_eq (Wr.size W58).symm))
  obtain ⟨T59, X59, e59, st59⟩ := getF X58 hx hZ hown (host := "") (Or.inl (hw _ (List.mem_of_getElem? (i := 68) rfl))) (Via.of (hw _ (List.mem_of_getElem? (i := 69) rfl))) e58 ((Ff52q.other W55 (Or.inl hne)).other W58 (Or.inl hne)) (g := (mkF m 28 #[.val (.ref a1), .val (.long q2), .second, .val (.long q3), .second, .val (.int (14 : Int32))] [(.ref a1)])) rfl rfl (hb hby d5_28)
  obtain ⟨c60, Arc60, qc60, Sc60, Mc60, Hsc60, Gc60⟩ := id V58
  have hinc60 : ¬ ((23 : Int32) < 0 ∨ c60.slots.size ≤ ((23 : Int32)).toNatClampNeg) := inb_of Sc60 ⟨by decide, by decide⟩
  obtain ⟨T61, h61, X61, e61, W61, st61⟩ := stJ X59 hx hZ e59 Arc60 (j := (23 : Int32)) hinc60 (g := (mkF m 39 #[.val (.ref a1), .val (.long q2), .second, .val (.long q3), .second, .val (.int (14 : Int32))] [(.long (-2147483648 : Int64)), (.int (23 : Int32)), (.ref fa)])) rfl rfl (hb hby d5_39)
  have V61 := Arh.push Arc60 qc60 Sc60 Mc60 Hsc60 Gc60 rfl W61 hinc60
  have K61 : Keep h0 h61 [a1, fa] := K58.wr W61 (Or.inl (List.mem_of_getElem? (i := 1) rfl))
  have N61 := Fr.snoc X61 N58 g_fa
  have Z61 : n0 ≤ h61.size := (Nat.le_trans Z58 (Nat.le_of_eq (Wr.size W61).symm))
  obtain ⟨fs, hr, hrun, hended, hW, hsame⟩ := X61.leave (v := some (.int (14 : Int32))) (fun h => by rw [Bd.returns] at h; cases h)
  refine ⟨_, _, pw0 _ ?_, hrun, hended, _, _, rfl, ?_, ⟨_, rfl⟩, hW, hsame.mono (by decide) (by decide)⟩
  · skip
    refine XS.aloadN X0.here hx rfl (hb hby d5_0) rfl rfl ?_
    show Steps p.tables e below (s₁.setTop (mkF m 1 #[.val (.ref a1), .val (.long q2), .second, .val (.long q3), .second, .unset] [(.ref a1)])) _
    refine st52.trans ?_
    show Steps p.tables e below (T52.setTop (mkF m 4 #[.val (.ref a1), .val (.long q2), .second, .val (.long q3), .second, .unset] [(.int (14 : Int32))])) _
    refine XS.istore X52.here hx rfl (hb hby d5_4) rfl (l' := #[.val (.ref a1), .val (.long q2), .second, .val (.long q3), .second, .val (.int (14 : Int32))]) rfl ?_
    show Steps p.tables e below (T52.setTop (mkF m 6 #[.val (.ref a1), .val (.long q2), .second, .val (.long q3), .second, .val (.int (14 : Int32))] [])) _
    refine XS.aloadN X52.here hx rfl (hb hby d5_6) rfl rfl ?_
    show Steps p.tables e below (T52.setTop (mkF m 7 #[.val (.ref a1), .val (.long q2), .second, .val (.long q3), .second, .val (.int (14 : Int32))] [(.ref a1)])) _
    refine st53 _ ?_
    show Steps p.tables e below (T53.setTop (mkF m 10 #[.val (.ref a1), .val (.long q2), .second, .val (.long q3), .second, .val (.int (14 : Int32))] [(.ref fa)])) _
    refine XS.iload X53.here hx rfl (hb hby d5_10) rfl ?_
    show Steps p.tables e below (T53.setTop (mkF m 12 #[.val (.ref a1), .val (.long q2), .second, .val (.long q3), .second, .val (.int (14 : Int32))] [(.int (14 : Int32)), (.ref fa)])) _
    refine XS.bipush X53.here hx rfl (hb hby d5_12) ?_
    show Steps p.tables e below (T53.setTop (mkF m 14 #[.val (.ref a1), .val (.long q2), .second, .val (.long q3), .second, .val (.int (14 : Int32))] [(.int (7 : Int32)), (.int (14 : Int32)), (.ref fa)])) _
    refine XS.iadd X53.here hx rfl (hb hby d5_14) rfl ?_
    show Steps p.tables e below (T53.setTop (mkF m 15 #[.val (.ref a1), .val (.long q2), .second, .val (.long q3), .second, .val (.int (14 : Int32))] [(.int (21 : Int32)), (.ref fa)])) _
    refine XS.lloadN X53.here hx rfl (hb hby d5_15) rfl ?_
    show Steps p.tables e below (T53.setTop (mkF m 16 #[.val (.ref a1), .val (.long q2), .second, .val (.long q3), .second, .val (.int (14 : Int32))] [(.long q2), (.int (21 : Int32)), (.ref fa)])) _
    refine st55 _ ?_
    show Steps p.tables e below (T55.setTop (mkF m 17 #[.val (.ref a1), .val (.long q2), .second, .val (.long q3), .second, .val (.int (14 : Int32))] [])) _
    refine XS.aloadN X55.here hx rfl (hb hby d5_17) rfl rfl ?_
    show Steps p.tables e below (T55.setTop (mkF m 18 #[.val (.ref a1), .val (.long q2), .second, .val (.long q3), .second, .val (.int (14 : Int32))] [(.ref a1)])) _
    refine st56 _ ?_
    show Steps p.tables e below (T56.setTop (mkF m 21 #[.val (.ref a1), .val (.long q2), .second, .val (.long q3), .second, .val (.int (14 : Int32))] [(.ref fa)])) _
    refine XS.iload X56.here hx rfl (hb hby d5_21) rfl ?_
    show Steps p.tables e below (T56.setTop (mkF m 23 #[.val (.ref a1), .val (.long q2), .second, .val (.long q3), .second, .val (.int (14 : Int32))] [(.int (14 : Int32)), (.ref fa)])) _
    refine XS.iconst X56.here hx rfl (hb hby d5_23) ?_
    show Steps p.tables e below (T56.setTop (mkF m 24 #[.val (.ref a1), .val (.long q2), .second, .val (.long q3), .second, .val (.int (14 : Int32))] [(.int (0 : Int32)), (.int (14 : Int32)), (.ref fa)])) _
    refine XS.iadd X56.here hx rfl (hb hby d5_24) rfl ?_
    show Steps p.tables e below (T56.setTop (mkF m 25 #[.val (.ref a1), .val (.long q2), .second, .val (.long q3), .second, .val (.int (14 : Int32))] [(.int (14 : Int32)), (.ref fa)])) _
    refine XS.lloadN X56.here hx rfl (hb hby d5_25) rfl ?_
    show Steps p.tables e below (T56.setTop (mkF m 26 #[.val (.ref a1), .val (.long q2), .second, .val (.long q3), .second, .val (.int (14 : Int32))] [(.long q3), (.int (14 : Int32)), (.ref fa)])) _
    refine st58 _ ?_
    show Steps p.tables e below (T58.setTop (mkF m 27 #[.val (.ref a1), .val (.long q2), .second, .val (.long q3), .second, .val (.int (14 : Int32))] [])) _
    refine XS.aloadN X58.here hx rfl (hb hby d5_27) rfl rfl ?_
    show Steps p.tables e below (T58.setTop (mkF m 28 #[.val (.ref a1), .val (.long q2), .second, .val (.long q3), .second, .val (.int (14 : Int32))] [(.ref a1)])) _
    refine st59 _ ?_
    show Steps p.tables e below (T59.setTop (mkF m 31 #[.val (.ref a1), .val (.long q2), .second, .val (.long q3), .second, .val (.int (14 : Int32))] [(.ref fa)])) _
    refine XS.iload X59.here hx rfl (hb hby d5_31) rfl ?_
    show Steps p.tables e below (T59.setTop (mkF m 33 #[.val (.ref a1), .val (.long q2), .second, .val (.long q3), .second, .val (.int (14 : Int32))] [(.int (14 : Int32)), (.ref fa)])) _
    refine XS.bipush X59.here hx rfl (hb hby d5_33) ?_
    show Steps p.tables e below (T59.setTop (mkF m 35 #[.val (.ref a1), .val (.long q2), .second, .val (.long q3), .second, .val (.int (14 : Int32))] [(.int (9 : Int32)), (.int (14 : Int32)), (.ref fa)])) _
    refine XS.iadd X59.here hx rfl (hb hby d5_35) rfl ?_
    show Steps p.tables e below (T59.setTop (mkF m 36 #[.val (.ref a1), .val (.long q2), .second, .val (.long q3), .second, .val (.int (14 : Int32))] [(.int (23 : Int32)), (.ref fa)])) _
    refine X59.ldc2Long hx hown (mvT hZ (hw _ (List.mem_of_getElem? (i := 70) rfl))) (g := (mkF m 36 #[.val (.ref a1), .val (.long q2), .second, .val (.long q3), .second, .val (.int (14 : Int32))] [(.int (23 : Int32)), (.ref fa)])) rfl (hb hby d5_36) _ ?_
    show Steps p.tables e below (T59.setTop (mkF m 39 #[.val (.ref a1), .val (.long q2), .second, .val (.long q3), .second, .val (.int (14 : Int32))] [(.long (-2147483648 : Int64)), (.int (23 : Int32)), (.ref fa)])) _
    refine st61 _ ?_
    show Steps p.tables e below (T61.setTop (mkF m 40 #[.val (.ref a1), .val (.long q2), .second, .val (.long q3), .second, .val (.int (14 : Int32))] [])) _
    refine XS.iload X61.here hx rfl (hb hby d5_40) rfl ?_
    show Steps p.tables e below (T61.setTop (mkF m 42 #[.val (.ref a1), .val (.long q2), .second, .val (.long q3), .second, .val (.int (14 : Int32))] [(.int (14 : Int32))])) _
    exact retI X61 hx Bd.returns (hb hby d5_42) hr
  · show Q_5b Z a1 q2 q3 fa kk hs h0 n0 _ T61.heap _
    rw [e61]
    exact ⟨rfl, N61, K61, (((E52q.wr W55).wr W58).wr W61), (((F052q.other W55 (Or.inl hne)).other W58 (Or.inl hne)).other W61 (Or.inl hne)), (((F152q.other W55 (Or.inl hne)).other W58 (Or.inl hne)).other W61 (Or.inl hne)), (((F252q.other W55 (Or.inl hne)).other W58 (Or.inl hne)).other W61 (Or.inl hne)), (((F352q.other W55 (Or.inl hne)).other W58 (Or.inl hne)).other W61 (Or.inl hne)), (((Ff52q.other W55 (Or.inl hne)).other W58 (Or.inl hne)).other W61 (Or.inl hne)), V61⟩
theorem d7_0 : decode prog_4_method_10_code 0 = .ok (.aload_n 0, 1) := by decide +kernel
theorem d7_1 : decode prog_4_method_10_code 1 = .ok (.getfield 19, 3) := by decide +kernel
theorem d7_4 : decode prog_4_method_10_code 4 = .ok (.iload_n 1, 1) := by decide +kernel
theorem d7_5 : decode prog_4_method_10_code 5 = .ok (.iconst 4, 1) := by decide +kernel
theorem d7_6 : decode prog_4_method_10_code 6 = .ok (.iadd, 1) := by decide +kernel
theorem d7_7 : decode prog_4_method_10_code 7 = .ok (.lload_n 2, 1) := by decide +kernel
theorem d7_8 : decode prog_4_method_10_code 8 = .ok (.lastore, 1) := by decide +kernel
theorem d7_9 : decode prog_4_method_10_code 9 = .ok (.return_, 1) := by decide +kernel
theorem ef_7 (m : MethodId) (x0 : Addr) (x1 : Int32) (x2 : Int64) : entryFrame m #[(.ref x0), (.int x1), (.long x2)] 4 = mkF m 0 #[.val (.ref x0), .val (.int x1), .val (.long x2), .second] [] := by first | (simp [entryFrame, mkF, argsToLocals, Value.category]; done) | rfl
def Q_7 (Z : State) (a1 : Addr) (q3 : Int64) (fa : Addr) (kk : ClassId) (hs : List (Int32 × Value)) (h0 : Heap) (n0 : Nat) (v : Option Value) (h : Heap) (L : List Loc) : Prop := v = none ∧ Fr n0 L ∧ Keep h0 h [fa] ∧ Arh Z h fa kk .long (224 : Int32) (((4 : Int32), .long q3) :: hs) [] (.long (0 : Int64))
set_option maxRecDepth 65536 in
set_option maxHeartbeats 40000000 in
theorem rm_7 (l : Launch) (Z : State) (a0 : Array Value) (hw : ∀ d ∈ tables_1, d.before a0 Z = true) (ws : List Jvm.Cond) (a1 : Addr) (q3 : Int64) (fa : Addr) (kk : ClassId) (hs : List (Int32 × Value)) (h0 : Heap) (n0 : Nat) (Z0 : n0 ≤ h0.size) (F_fields : Fld Z h0 a1 "com/example/matchwright/matchwright/book/RecordPool" "fields" "[J" (.ref fa)) (H_fa : Arh Z h0 fa kk .long (224 : Int32) hs [] (.long (0 : Int64))) (g_fa : n0 ≤ fa) (hne : a1 ≠ fa) :
    MetFree l (⟨"com/example/matchwright/matchwright/book/LevelPool", "setLeftQuantity", "(IJ)V"⟩ : MethodName) (head1 (Jvm.Cond.code (⟨"com/example/matchwright/matchwright/book/LevelPool", "setLeftQuantity", "(IJ)V"⟩ : MethodName) prog_4_method_10_code 4 none :: ws) ({ frames := 0, cells := 0, slots := 0, locals := 0 } : Room)) (fun a U => a = #[(.ref a1), (.int (0 : Int32)), (.long q3)] ∧ Z.Warmed39 U.vm ∧ U.heap = h0) (fun _ _ _ _ _ => True) (fun _ U o U' => ∃ v L, o = .returned v ∧ Q_7 Z a1 q3 fa kk hs h0 n0 v U'.heap L ∧ FrameEnd U o U' L ({ frames := 0, cells := 0, slots := 0, locals := 0 } : Room).cells ({ frames := 0, cells := 0, slots := 0, locals := 0 } : Room).slots) := by
  refine MetFree.of_bodySF (plainFor_of_name pn_com_example_matchwright_matchwright_book_LevelPool) hisR ?_
  intro p e s m args below meth c s₁ Bd hml0 hP hK
  obtain ⟨rfl, hZ, hh⟩ := hP
  have hx := Bd.exec
  have hby := Bd.bytes
  have hml : c.maxLocals = 4 := hml0
  have hown : s.vm.findClass "com/example/matchwright/matchwright/book/LevelPool" = some m.cls := findClass_of_methodNamed Bd.named
  have hnm := (name_of_methodNamed Bd.named Bd.method).1
  have X0 : Stand p l e ({ frames := 0, cells := 0, slots := 0, locals := 0 } : Room) s m #[(.ref a1), (.int (0 : Int32)), (.long q3)] below meth c s₁ [] 0 0 := Stand.of_body Bd
  have e0 : s₁.heap = h0 := by rw [← hh, Bd.state]; rfl
  have N0 := Fr.nil n0
  have pw0 : ∀ t, Steps p.tables e below (s₁.setTop (mkF m 0 #[.val (.ref a1), .val (.int (0 : Int32)), .val (.long q3), .second] [])) t → Steps p.tables e below (s₁.setTop (entryFrame m #[(.ref a1), (.int (0 : Int32)), (.long q3)] 4)) t := fun t k => castTop (ef_7 m a1 (0 : Int32) q3) k
  have K0 : Keep h0 h0 [fa] := Keep.refl h0 [fa]
  obtain ⟨T62, X62, e62, st62⟩ := getF X0 hx hZ hown (host := "") (Or.inl (hw _ (List.mem_of_getElem? (i := 68) rfl))) (Via.of (hw _ (List.mem_of_getElem? (i := 69) rfl))) e0 F_fields (g := (mkF m 1 #[.val (.ref a1), .val (.int (0 : Int32)), .val (.long q3), .second] [(.ref a1)])) rfl rfl (hb hby d7_1)
  obtain ⟨c63, Arc63, qc63, Sc63, Mc63, Hsc63, Gc63⟩ := id H_fa
  have hinc63 : ¬ ((4 : Int32) < 0 ∨ c63.slots.size ≤ ((4 : Int32)).toNatClampNeg) := inb_of Sc63 ⟨by decide, by decide⟩
  obtain ⟨T64, h64, X64, e64, W64, st64⟩ := stJ X62 hx hZ e62 Arc63 (j := (4 : Int32)) hinc63 (g := (mkF m 8 #[.val (.ref a1), .val (.int (0 : Int32)), .val (.long q3), .second] [(.long q3), (.int (4 : Int32)), (.ref fa)])) rfl rfl (hb hby d7_8)
  have V64 := Arh.push Arc63 qc63 Sc63 Mc63 Hsc63 Gc63 rfl W64 hinc63
  have K64 : Keep h0 h64 [fa] := K0.wr W64 (Or.inl (List.mem_of_getElem? (i := 0) rfl))
  have N64 := Fr.snoc X64 N0 g_fa
  have Z64 : n0 ≤ h64.size := (Nat.le_trans Z0 (Nat.le_of_eq (Wr.size W64).symm))
  obtain ⟨fs, hr, hrun, hended, hW, hsame⟩ := X64.leave (v := none) (fun _ => rfl)
  refine ⟨_, _, pw0 _ ?_, hrun, hended, _, _, rfl, ?_, ⟨_, rfl⟩, hW, hsame.mono (by decide) (by decide)⟩
  · skip
    refine XS.aloadN X0.here hx rfl (hb hby d7_0) rfl rfl ?_
    show Steps p.tables e below (s₁.setTop (mkF m 1 #[.val (.ref a1), .val (.int (0 : Int32)), .val (.long q3), .second] [(.ref a1)])) _
    refine st62 _ ?_
    show Steps p.tables e below (T62.setTop (mkF m 4 #[.val (.ref a1), .val (.int (0 : Int32)), .val (.long q3), .second] [(.ref fa)])) _
    refine XS.iloadN X62.here hx rfl (hb hby d7_4) rfl ?_
    show Steps p.tables e below (T62.setTop (mkF m 5 #[.val (.ref a1), .val (.int (0 : Int32)), .val (.long q3), .second] [(.int (0 : Int32)), (.ref fa)])) _
    refine XS.iconst X62.here hx rfl (hb hby d7_5) ?_
    show Steps p.tables e below (T62.setTop (mkF m 6 #[.val (.ref a1), .val (.int (0 : Int32)), .val (.long q3), .second] [(.int (4 : Int32)), (.int (0 : Int32)), (.ref fa)])) _
    refine XS.iadd X62.here hx rfl (hb hby d7_6) rfl ?_
    show Steps p.tables e below (T62.setTop (mkF m 7 #[.val (.ref a1), .val (.int (0 : Int32)), .val (.long q3), .second] [(.int (4 : Int32)), (.ref fa)])) _
    refine XS.lloadN X62.here hx rfl (hb hby d7_7) rfl ?_
    show Steps p.tables e below (T62.setTop (mkF m 8 #[.val (.ref a1), .val (.int (0 : Int32)), .val (.long q3), .second] [(.long q3), (.int (4 : Int32)), (.ref fa)])) _
    refine st64 _ ?_
    show Steps p.tables e below (T64.setTop (mkF m 9 #[.val (.ref a1), .val (.int (0 : Int32)), .val (.long q3), .second] [])) _
    exact X64.returnOut hx Bd.returns (hb hby d7_9) hr
  · show Q_7 Z a1 q3 fa kk hs h0 n0 _ T64.heap _
    rw [e64]
    exact ⟨rfl, N64, K64, V64⟩
theorem d8_0 : decode prog_4_method_27_code 0 = .ok (.aload_n 0, 1) := by decide +kernel
theorem d8_1 : decode prog_4_method_27_code 1 = .ok (.getfield 19, 3) := by decide +kernel
theorem d8_4 : decode prog_4_method_27_code 4 = .ok (.iload_n 1, 1) := by decide +kernel
theorem d8_5 : decode prog_4_method_27_code 5 = .ok (.bipush 6, 2) := by decide +kernel
theorem d8_7 : decode prog_4_method_27_code 7 = .ok (.iadd, 1) := by decide +kernel
theorem d8_8 : decode prog_4_method_27_code 8 = .ok (.iload_n 2, 1) := by decide +kernel
theorem d8_9 : decode prog_4_method_27_code 9 = .ok (.ifCond .eq 7, 3) := by decide +kernel
theorem d8_12 : decode prog_4_method_27_code 12 = .ok (.lconst 1, 1) := by decide +kernel
theorem d8_13 : decode prog_4_method_27_code 13 = .ok (.goto 4, 3) := by decide +kernel
theorem d8_16 : decode prog_4_method_27_code 16 = .ok (.lconst 0, 1) := by decide +kernel
theorem d8_17 : decode prog_4_method_27_code 17 = .ok (.lastore, 1) := by decide +kernel
theorem d8_18 : decode prog_4_method_27_code 18 = .ok (.return_, 1) := by decide +kernel
theorem ef_8a (m : MethodId) (x0 : Addr) (x1 : Int32) (x2 : Int32) : entryFrame m #[(.ref x0), (.int x1), (.int x2)] 3 = mkF m 0 #[.val (.ref x0), .val (.int x1), .val (.int x2)] [] := by first | (simp [entryFrame, mkF, argsToLocals, Value.category]; done) | rfl
def Q_8a (Z : State) (a1 : Addr) (p3 : Int32) (fa : Addr) (kk : ClassId) (hs : List (Int32 × Value)) (w : Int64) (h0 : Heap) (n0 : Nat) (v : Option Value) (h : Heap) (L : List Loc) : Prop := v = none ∧ Fr n0 L ∧ Keep h0 h [fa] ∧ Arh Z h fa kk .long (224 : Int32) (((6 : Int32), .long w) :: hs) [] (.long (0 : Int64))
set_option maxRecDepth 65536 in
set_option maxHeartbeats 40000000 in
theorem rm_8a (l : Launch) (Z : State) (a0 : Array Value) (hw : ∀ d ∈ tables_1, d.before a0 Z = true) (ws : List Jvm.Cond) (a1 : Addr) (p3 : Int32) (fa : Addr) (kk : ClassId) (hs : List (Int32 × Value)) (w : Int64) (h0 : Heap) (n0 : Nat) (Z0 : n0 ≤ h0.size) (F_fields : Fld Z h0 a1 "com/example/matchwright/matchwright/book/RecordPool" "fields" "[J" (.ref fa)) (H_fa : Arh Z h0 fa kk .long (224 : Int32) hs [] (.long (0 : Int64))) (g_fa : n0 ≤ fa) (hne : a1 ≠ fa) (hsp : own_red p3 = w) :
    MetFree l (⟨"com/example/matchwright/matchwright/book/LevelPool", "setRed", "(IZ)V"⟩ : MethodName) (head1 (Jvm.Cond.code (⟨"com/example/matchwright/matchwright/book/LevelPool", "setRed", "(IZ)V"⟩ : MethodName) prog_4_method_27_code 3 none :: ws) ({ frames := 0, cells := 0, slots := 0, locals := 0 } : Room)) (fun a U => a = #[(.ref a1), (.int (0 : Int32)), (.int p3)] ∧ Z.Warmed39 U.vm ∧ U.heap = h0) (fun _ _ _ _ _ => True) (fun _ U o U' => ∃ v L, o = .returned v ∧ Q_8a Z a1 p3 fa kk hs w h0 n0 v U'.heap L ∧ FrameEnd U o U' L ({ frames := 0, cells := 0, slots := 0, locals := 0 } : Room).cells ({ frames := 0, cells := 0, slots := 0, locals := 0 } : Room).slots) := by
  refine MetFree.of_bodySF (plainFor_of_name pn_com_example_matchwright_matchwright_book_LevelPool) hisR ?_
  intro p e s m args below meth c s₁ Bd hml0 hP hK
  obtain ⟨rfl, hZ, hh⟩ := hP
  have hx := Bd.exec
  have hby := Bd.bytes
  have hml : c.maxLocals = 3 := hml0
  have hown : s.vm.findClass "com/example/matchwright/matchwright/book/LevelPool" = some m.cls := findClass_of_methodNamed Bd.named
  have hnm := (name_of_methodNamed Bd.named Bd.method).1
  have X0 : Stand p l e ({ frames := 0, cells := 0, slots := 0, locals := 0 } : Room) s m #[(.ref a1), (.int (0 : Int32)), (.int p3)] below meth c s₁ [] 0 0 := Stand.of_body Bd
  have e0 : s₁.heap = h0 := by rw [← hh, Bd.state]; rfl
  have N0 := Fr.nil n0
  have pw0 : ∀ t, Steps p.tables e below (s₁.setTop (mkF m 0 #[.val (.ref a1), .val (.int (0 : Int32)), .val (.int p3)] [])) t → Steps p.tables e below (s₁.setTop (entryFrame m #[(.ref a1), (.int (0 : Int32)), (.int p3)] 3)) t := fun t k => castTop (ef_8a m a1 (0 : Int32) p3) k
  have K0 : Keep h0 h0 [fa] := Keep.refl h0 [fa]
  obtain ⟨T65, X65, e65, st65⟩ := getF X0 hx hZ hown (host := "") (Or.inl (hw _ (List.mem_of_getElem? (i := 68) rfl))) (Via.of (hw _ (List.mem_of_getElem? (i := 69) rfl))) e0 F_fields (g := (mkF m 1 #[.val (.ref a1), .val (.int (0 : Int32)), .val (.int p3)] [(.ref a1)])) rfl rfl (hb hby d8_1)
  have pw66 : ∀ t, Steps p.tables e below (T65.setTop (mkF m 9 #[.val (.ref a1), .val (.int (0 : Int32)), .val (.int p3)] [(.int p3), (.int (6 : Int32)), (.ref fa)])) t → Steps p.tables e below (s₁.setTop (entryFrame m #[(.ref a1), (.int (0 : Int32)), (.int p3)] 3)) t := by
    intro t k
    refine pw0 t ?_
    refine XS.aloadN X0.here hx rfl (hb hby d8_0) rfl rfl ?_
    show Steps p.tables e below (s₁.setTop (mkF m 1 #[.val (.ref a1), .val (.int (0 : Int32)), .val (.int p3)] [(.ref a1)])) _
    refine st65 _ ?_
    show Steps p.tables e below (T65.setTop (mkF m 4 #[.val (.ref a1), .val (.int (0 : Int32)), .val (.int p3)] [(.ref fa)])) _
    refine XS.iloadN X65.here hx rfl (hb hby d8_4) rfl ?_
    show Steps p.tables e below (T65.setTop (mkF m 5 #[.val (.ref a1), .val (.int (0 : Int32)), .val (.int p3)] [(.int (0 : Int32)), (.ref fa)])) _
    refine XS.bipush X65.here hx rfl (hb hby d8_5) ?_
    show Steps p.tables e below (T65.setTop (mkF m 7 #[.val (.ref a1), .val (.int (0 : Int32)), .val (.int p3)] [(.int (6 : Int32)), (.int (0 : Int32)), (.ref fa)])) _
    refine XS.iadd X65.here hx rfl (hb hby d8_7) rfl ?_
    show Steps p.tables e below (T65.setTop (mkF m 8 #[.val (.ref a1), .val (.int (0 : Int32)), .val (.int p3)] [(.int (6 : Int32)), (.ref fa)])) _
    refine XS.iloadN X65.here hx rfl (hb hby d8_8) rfl ?_
    show Steps p.tables e below (T65.setTop (mkF m 9 #[.val (.ref a1), .val (.int (0 : Int32)), .val (.int p3)] [(.int p3), (.int (6 : Int32)), (.ref fa)])) _
    exact k
  by_cases hc67 : p3 = (0 : Int32)
  · skip
    obtain ⟨c68, Arc68, qc68, Sc68, Mc68, Hsc68, Gc68⟩ := id H_fa
    have hinc68 : ¬ ((6 : Int32) < 0 ∨ c68.slots.size ≤ ((6 : Int32)).toNatClampNeg) := inb_of Sc68 ⟨by decide, by decide⟩
    obtain ⟨T69, h69, X69, e69, W69, st69⟩ := stJ X65 hx hZ e65 Arc68 (j := (6 : Int32)) hinc68 (g := (mkF m 17 #[.val (.ref a1), .val (.int (0 : Int32)), .val (.int p3)] [(.long (0 : Int64)), (.int (6 : Int32)), (.ref fa)])) rfl rfl (hb hby d8_17)
    have V69 := Arh.push Arc68 qc68 Sc68 Mc68 Hsc68 Gc68 rfl W69 hinc68
    have K69 : Keep h0 h69 [fa] := K0.wr W69 (Or.inl (List.mem_of_getElem? (i := 0) rfl))
    have N69 := Fr.snoc X69 N0 g_fa
    have Z69 : n0 ≤ h69.size := (Nat.le_trans Z0 (Nat.le_of_eq (Wr.size W69).symm))
    obtain ⟨fs, hr, hrun, hended, hW, hsame⟩ := X69.leave (v := none) (fun _ => rfl)
    refine ⟨_, _, pw66 _ ?_, hrun, hended, _, _, rfl, ?_, ⟨_, rfl⟩, hW, hsame.mono (by decide) (by decide)⟩
    · skip
      refine XS.ifYes X65.here hx rfl (pc0 := 9) (pc' := 16) rfl (hb hby d8_9) rfl ((if0 _ _).trans (teq hc67).1) (by decide) (by decide) ?_
      show Steps p.tables e below (T65.setTop (mkF m 16 #[.val (.ref a1), .val (.int (0 : Int32)), .val (.int p3)] [(.int (6 : Int32)), (.ref fa)])) _
      refine XS.lconst X65.here hx rfl (hb hby d8_16) ?_
      show Steps p.tables e below (T65.setTop (mkF m 17 #[.val (.ref a1), .val (.int (0 : Int32)), .val (.int p3)] [(.long (0 : Int64)), (.int (6 : Int32)), (.ref fa)])) _
      refine st69 _ ?_
      show Steps p.tables e below (T69.setTop (mkF m 18 #[.val (.ref a1), .val (.int (0 : Int32)), .val (.int p3)] [])) _
      exact X69.returnOut hx Bd.returns (hb hby d8_18) hr
    · show Q_8a Z a1 p3 fa kk hs w h0 n0 _ T69.heap _
      rw [e69]
      have hh2 := hsp
      unfold own_red at hh2
      rw [if_pos hc67] at hh2
      subst hh2
      exact ⟨rfl, N69, K69, V69⟩
  · skip
    obtain ⟨c70, Arc70, qc70, Sc70, Mc70, Hsc70, Gc70⟩ := id H_fa
    have hinc70 : ¬ ((6 : Int32) < 0 ∨ c70.slots.size ≤ ((6 : Int32)).toNatClampNeg) := inb_of Sc70 ⟨by decide, by decide⟩
    obtain ⟨T71, h71, X71, e71, W71, st71⟩ := stJ X65 hx hZ e65 Arc70 (j := (6 : Int32)) hinc70 (g := (mkF m 17 #[.val (.ref a1), .val (.int (0 : Int32)), .val (.int p3)] [(.long (1 : Int64)), (.int (6 : Int32)), (.ref fa)])) rfl rfl (hb hby d8_17)
    have V71 := Arh.push Arc70 qc70 Sc70 Mc70 Hsc70 Gc70 rfl W71 hinc70
    have K71 : Keep h0 h71 [fa] := K0.wr W71 (Or.inl (List.mem_of_getElem? (i := 0) rfl))
    have N71 := Fr.snoc X71 N0 g_fa
    have Z71 : n0 ≤ h71.size := (Nat.le_trans Z0 (Nat.le_of_eq (Wr.size W71).symm))
    obtain ⟨fs, hr, hrun, hended, hW, hsame⟩ := X71.leave (v := none) (fun _ => rfl)
    refine ⟨_, _, pw66 _ ?_, hrun, hended, _, _, rfl, ?_, ⟨_, rfl⟩, hW, hsame.mono (by decide) (by decide)⟩
    · skip
      refine XS.ifNo X65.here hx rfl (hb hby d8_9) rfl ((if0 _ _).trans (feq hc67).1) ?_
      show Steps p.tables e below (T65.setTop (mkF m 12 #[.val (.ref a1), .val (.int (0 : Int32)), .val (.int p3)] [(.int (6 : Int32)), (.ref fa)])) _
      refine XS.lconst X65.here hx rfl (hb hby d8_12) ?_
      show Steps p.tables e below (T65.setTop (mkF m 13 #[.val (.ref a1), .val (.int (0 : Int32)), .val (.int p3)] [(.long (1 : Int64)), (.int (6 : Int32)), (.ref fa)])) _
      refine XS.goto X65.here hx rfl (pc0 := 13) (pc' := 17) rfl (hb hby d8_13) (by decide) (by decide) ?_
      show Steps p.tables e below (T65.setTop (mkF m 17 #[.val (.ref a1), .val (.int (0 : Int32)), .val (.int p3)] [(.long (1 : Int64)), (.int (6 : Int32)), (.ref fa)])) _
      refine st71 _ ?_
      show Steps p.tables e below (T71.setTop (mkF m 18 #[.val (.ref a1), .val (.int (0 : Int32)), .val (.int p3)] [])) _
      exact X71.returnOut hx Bd.returns (hb hby d8_18) hr
    · show Q_8a Z a1 p3 fa kk hs w h0 n0 _ T71.heap _
      rw [e71]
      have hh2 := hsp
      unfold own_red at hh2
      rw [if_neg hc67] at hh2
      subst hh2
      exact ⟨rfl, N71, K71, V71⟩
theorem d9_0 : decode prog_4_method_26_code 0 = .ok (.iload_n 1, 1) := by decide +kernel
theorem d9_1 : decode prog_4_method_26_code 1 = .ok (.ldc 55, 2) := by decide +kernel
theorem d9_3 : decode prog_4_method_26_code 3 = .ok (.if_icmp .eq 20, 3) := by decide +kernel
theorem d9_6 : decode prog_4_method_26_code 6 = .ok (.aload_n 0, 1) := by decide +kernel
theorem d9_7 : decode prog_4_method_26_code 7 = .ok (.getfield 19, 3) := by decide +kernel
theorem d9_10 : decode prog_4_method_26_code 10 = .ok (.iload_n 1, 1) := by decide +kernel
theorem d9_11 : decode prog_4_method_26_code 11 = .ok (.bipush 6, 2) := by decide +kernel
theorem d9_13 : decode prog_4_method_26_code 13 = .ok (.iadd, 1) := by decide +kernel
theorem d9_14 : decode prog_4_method_26_code 14 = .ok (.laload, 1) := by decide +kernel
theorem d9_15 : decode prog_4_method_26_code 15 = .ok (.l2i, 1) := by decide +kernel
theorem d9_16 : decode prog_4_method_26_code 16 = .ok (.ifCond .eq 7, 3) := by decide +kernel
theorem d9_19 : decode prog_4_method_26_code 19 = .ok (.iconst 1, 1) := by decide +kernel
theorem d9_20 : decode prog_4_method_26_code 20 = .ok (.goto 4, 3) := by decide +kernel
theorem d9_23 : decode prog_4_method_26_code 23 = .ok (.iconst 0, 1) := by decide +kernel
theorem d9_24 : decode prog_4_method_26_code 24 = .ok (.ireturn, 1) := by decide +kernel
theorem ef_9a (m : MethodId) (x0 : Addr) (x1 : Int32) : entryFrame m #[(.ref x0), (.int x1)] 2 = mkF m 0 #[.val (.ref x0), .val (.int x1)] [] := by first | (simp [entryFrame, mkF, argsToLocals, Value.category]; done) | rfl
def Q_9a (Z : State) (a1 : Addr) (fa : Addr) (kk : ClassId) (hs : List (Int32 × Value)) (w : Int64) (r : Int32) (h0 : Heap) (n0 : Nat) (v : Option Value) (h : Heap) (L : List Loc) : Prop := v = some (.int r) ∧ Fr n0 L ∧ h = h0
set_option maxRecDepth 65536 in
set_option maxHeartbeats 40000000 in
theorem rm_9a (l : Launch) (Z : State) (a0 : Array Value) (hw : ∀ d ∈ tables_1, d.before a0 Z = true) (ws : List Jvm.Cond) (a1 : Addr) (fa : Addr) (kk : ClassId) (hs : List (Int32 × Value)) (w : Int64) (r : Int32) (h0 : Heap) (n0 : Nat) (Z0 : n0 ≤ h0.size) (F_fields : Fld Z h0 a1 "com/example/matchwright/matchwright/book/RecordPool" "fields" "[J" (.ref fa)) (H_fa : Arh Z h0 fa kk .long (224 : Int32) hs [] (.long (0 : Int64))) (g_fa : n0 ≤ fa) (hne : a1 ≠ fa) (hget : getH hs [] (.long (0 : Int64)) ((6 : Int32)).toNatClampNeg = .long w) (hsp : own_isr w = r) :
    MetFree l (⟨"com/example/matchwright/matchwright/book/LevelPool", "isRed", "(I)Z"⟩ : MethodName) (head1 (Jvm.Cond.code (⟨"com/example/matchwright/matchwright/book/LevelPool", "isRed", "(I)Z"⟩ : MethodName) prog_4_method_26_code 2 (some .boolean) :: ws) ({ frames := 0, cells := 0, slots := 0, locals := 0 } : Room)) (fun a U => a = #[(.ref a1), (.int (0 : Int32))] ∧ Z.Warmed39 U.vm ∧ U.heap = h0) (fun _ _ _ _ _ => True) (fun _ U o U' => ∃ v L, o = .returned v ∧ Q_9a Z a1 fa kk hs w r h0 n0 v U'.heap L ∧ FrameEnd U o U' L ({ frames := 0, cells := 0, slots := 0, locals := 0 } : Room).cells ({ frames := 0, cells := 0, slots := 0, locals := 0 } : Room).slots) := by
  refine MetFree.of_bodySF (plainFor_of_name pn_com_example_matchwright_matchwright_book_LevelPool) hisR ?_
  intro p e s m args below meth c s₁ Bd hml0 hP hK
  obtain ⟨rfl, hZ, hh⟩ := hP
  have hx := Bd.exec
  have hby := Bd.bytes
  have hml : c.maxLocals = 2 := hml0
  have hown : s.vm.findClass "com/example/matchwright/matchwright/book/LevelPool" = some m.cls := findClass_of_methodNamed Bd.named
  have hnm := (name_of_methodNamed Bd.named Bd.method).1
  have X0 : Stand p l e ({ frames := 0, cells := 0, slots := 0, locals := 0 } : Room) s m #[(.ref a1), (.int (0 : Int32))] below meth c s₁ [] 0 0 := Stand.of_body Bd
  have e0 : s₁.heap = h0 := by rw [← hh, Bd.state]; rfl
  have N0 := Fr.nil n0
  have pw0 : ∀ t, Steps p.tables e below (s₁.setTop (mkF m 0 #[.val (.ref a1), .val (.int (0 : Int32))] [])) t → Steps p.tables e below (s₁.setTop (entryFrame m #[(.ref a1), (.int (0 : Int32))] 2)) t := fun t k => castTop (ef_9a m a1 (0 : Int32)) k
  have K0 : Keep h0 h0 [] := Keep.refl h0 []
  obtain ⟨T72, X72, e72, st72⟩ := getF X0 hx hZ hown (host := "") (Or.inl (hw _ (List.mem_of_getElem? (i := 68) rfl))) (Via.of (hw _ (List.mem_of_getElem? (i := 69) rfl))) e0 F_fields (g := (mkF m 7 #[.val (.ref a1), .val (.int (0 : Int32))] [(.ref a1)])) rfl rfl (hb hby d9_7)
  obtain ⟨c73, Arc73, qc73, Sc73, Mc73, Hsc73, Gc73⟩ := id H_fa
  have hinc73 : ¬ ((6 : Int32) < 0 ∨ c73.slots.size ≤ ((6 : Int32)).toNatClampNeg) := inb_of Sc73 ⟨by decide, by decide⟩
  have hatc73 : c73.slots[((6 : Int32)).toNatClampNeg]? = some (.long w) := atH Hsc73 hinc73 hget
  have pw74 : ∀ t, Steps p.tables e below (T72.setTop (mkF m 16 #[.val (.ref a1), .val (.int (0 : Int32))] [(.int (w.toInt32))])) t → Steps p.tables e below (s₁.setTop (entryFrame m #[(.ref a1), (.int (0 : Int32))] 2)) t := by
    intro t k
    refine pw0 t ?_
    refine XS.iloadN X0.here hx rfl (hb hby d9_0) rfl ?_
    show Steps p.tables e below (s₁.setTop (mkF m 1 #[.val (.ref a1), .val (.int (0 : Int32))] [(.int (0 : Int32))])) _
    refine X0.ldcInt hx hown (mvT hZ (hw _ (List.mem_of_getElem? (i := 87) rfl))) (g := (mkF m 1 #[.val (.ref a1), .val (.int (0 : Int32))] [(.int (0 : Int32))])) rfl (hb hby d9_1) _ ?_
    show Steps p.tables e below (s₁.setTop (mkF m 3 #[.val (.ref a1), .val (.int (0 : Int32))] [(.int (-2147483648 : Int32)), (.int (0 : Int32))])) _
    refine XS.icmpNo X0.here hx rfl (hb hby d9_3) rfl (feq (by decide : ¬ ((0 : Int32) = (-2147483648 : Int32)))).1 ?_
    show Steps p.tables e below (s₁.setTop (mkF m 6 #[.val (.ref a1), .val (.int (0 : Int32))] [])) _
    refine XS.aloadN X0.here hx rfl (hb hby d9_6) rfl rfl ?_
    show Steps p.tables e below (s₁.setTop (mkF m 7 #[.val (.ref a1), .val (.int (0 : Int32))] [(.ref a1)])) _
    refine st72 _ ?_
    show Steps p.tables e below (T72.setTop (mkF m 10 #[.val (.ref a1), .val (.int (0 : Int32))] [(.ref fa)])) _
    refine XS.iloadN X72.here hx rfl (hb hby d9_10) rfl ?_
    show Steps p.tables e below (T72.setTop (mkF m 11 #[.val (.ref a1), .val (.int (0 : Int32))] [(.int (0 : Int32)), (.ref fa)])) _
    refine XS.bipush X72.here hx rfl (hb hby d9_11) ?_
    show Steps p.tables e below (T72.setTop (mkF m 13 #[.val (.ref a1), .val (.int (0 : Int32))] [(.int (6 : Int32)), (.int (0 : Int32)), (.ref fa)])) _
    refine XS.iadd X72.here hx rfl (hb hby d9_13) rfl ?_
    show Steps p.tables e below (T72.setTop (mkF m 14 #[.val (.ref a1), .val (.int (0 : Int32))] [(.int (6 : Int32)), (.ref fa)])) _
    refine X72.laload hx (j := (6 : Int32)) (v := (.long w)) (by rw [e72]; exact Arc73.1) (State.isArrayOf_alike hZ.alike Arc73.2.1) Arc73.2.2 hinc73 hatc73 (g := (mkF m 14 #[.val (.ref a1), .val (.int (0 : Int32))] [(.int (6 : Int32)), (.ref fa)])) rfl rfl (hb hby d9_14) _ ?_
    show Steps p.tables e below (T72.setTop (mkF m 15 #[.val (.ref a1), .val (.int (0 : Int32))] [(.long w)])) _
    refine XS.l2i X72.here hx rfl (hb hby d9_15) rfl ?_
    show Steps p.tables e below (T72.setTop (mkF m 16 #[.val (.ref a1), .val (.int (0 : Int32))] [(.int (w.toInt32))])) _
    exact k
  by_cases hc75 : (w.toInt32) = (0 : Int32)
  · skip
    obtain ⟨fs, hr, hrun, hended, hW, hsame⟩ := X72.leave (v := some (.int (0 : Int32))) (fun h => by rw [Bd.returns] at h; cases h)
    refine ⟨_, _, pw74 _ ?_, hrun, hended, _, _, rfl, ?_, ⟨_, rfl⟩, hW, hsame.mono (by decide) (by decide)⟩
    · skip
      refine XS.ifYes X72.here hx rfl (pc0 := 16) (pc' := 23) rfl (hb hby d9_16) rfl ((if0 _ _).trans (teq hc75).1) (by decide) (by decide) ?_
      show Steps p.tables e below (T72.setTop (mkF m 23 #[.val (.ref a1), .val (.int (0 : Int32))] [])) _
      refine XS.iconst X72.here hx rfl (hb hby d9_23) ?_
      show Steps p.tables e below (T72.setTop (mkF m 24 #[.val (.ref a1), .val (.int (0 : Int32))] [(.int (0 : Int32))])) _
      exact retN X72 hx (t := .boolean) Bd.returns (by simp) (hb hby d9_24) hr
    · show Q_9a Z a1 fa kk hs w r h0 n0 _ T72.heap _
      rw [e72]
      exact ⟨by rw [← hsp]; unfold own_isr; rw [if_pos hc75], N0, rfl⟩
  · skip
    obtain ⟨fs, hr, hrun, hended, hW, hsame⟩ := X72.leave (v := some (.int (1 : Int32))) (fun h => by rw [Bd.returns] at h; cases h)
    refine ⟨_, _, pw74 _ ?_, hrun, hended, _, _, rfl, ?_, ⟨_, rfl⟩, hW, hsame.mono (by decide) (by decide)⟩
    · skip
      refine XS.ifNo X72.here hx rfl (hb hby d9_16) rfl ((if0 _ _).trans (feq hc75).1) ?_
      show Steps p.tables e below (T72.setTop (mkF m 19 #[.val (.ref a1), .val (.int (0 : Int32))] [])) _
      refine XS.iconst X72.here hx rfl (hb hby d9_19) ?_
      show Steps p.tables e below (T72.setTop (mkF m 20 #[.val (.ref a1), .val (.int (0 : Int32))] [(.int (1 : Int32))])) _
      refine XS.goto X72.here hx rfl (pc0 := 20) (pc' := 24) rfl (hb hby d9_20) (by decide) (by decide) ?_
      show Steps p.tables e below (T72.setTop (mkF m 24 #[.val (.ref a1), .val (.int (0 : Int32))] [(.int (1 : Int32))])) _
      exact retN X72 hx (t := .boolean) Bd.returns (by simp) (hb hby d9_24) hr
    · show Q_9a Z a1 fa kk hs w r h0 n0 _ T72.heap _
      rw [e72]
      exact ⟨by rw [← hsp]; unfold own_isr; rw [if_neg hc75], N0, rfl⟩
theorem ef_8b (m : MethodId) (x0 : Addr) (x1 : Int32) (x2 : Int32) : entryFrame m #[(.ref x0), (.int x1), (.int x2)] 3 = mkF m 0 #[.val (.ref x0), .val (.int x1), .val (.int x2)] [] := by first | (simp [entryFrame, mkF, argsToLocals, Value.category]; done) | rfl
def Q_8b (Z : State) (a1 : Addr) (p3 : Int32) (fa : Addr) (kk : ClassId) (hs : List (Int32 × Value)) (w : Int64) (h0 : Heap) (n0 : Nat) (v : Option Value) (h : Heap) (L : List Loc) : Prop := v = none ∧ Fr n0 L ∧ Keep h0 h [fa] ∧ Arh Z h fa kk .long (224 : Int32) (((20 : Int32), .long w) :: hs) [] (.long (0 : Int64))
set_option maxRecDepth 65536 in
set_option maxHeartbeats 40000000 in
theorem rm_8b (l : Launch) (Z : State) (a0 : Array Value) (hw : ∀ d ∈ tables_1, d.before a0 Z = true) (ws : List Jvm.Cond) (a1 : Addr) (p3 : Int32) (fa : Addr) (kk : ClassId) (hs : List (Int32 × Value)) (w : Int64) (h0 : Heap) (n0 : Nat) (Z0 : n0 ≤ h0.size) (F_fields : Fld Z h0 a1 "com/example/matchwright/matchwright/book/RecordPool" "fields" "[J" (.ref fa)) (H_fa : Arh Z h0 fa kk .long (224 : Int32) hs [] (.long (0 : Int64))) (g_fa : n0 ≤ fa) (hne : a1 ≠ fa) (hsp : own_red p3 = w) :
    MetFree l (⟨"com/example/matchwright/matchwright/book/LevelPool", "setRed", "(IZ)V"⟩ : MethodName) (head1 (Jvm.Cond.code (⟨"com/example/matchwright/matchwright/book/LevelPool", "setRed", "(IZ)V"⟩ : MethodName) prog_4_method_27_code 3 none :: ws) ({ frames := 0, cells := 0, slots := 0, locals := 0 } : Room)) (fun a U => a = #[(.ref a1), (.int (14 : Int32)), (.int p3)] ∧ Z.Warmed39 U.vm ∧ U.heap = h0) (fun _ _ _ _ _ => True) (fun _ U o U' => ∃ v L, o = .returned v ∧ Q_8b Z a1 p3 fa kk hs w h0 n0 v U'.heap L ∧ FrameEnd U o U' L ({ frames := 0, cells := 0, slots := 0, locals := 0 } : Room).cells ({ frames := 0, cells := 0, slots := 0, locals := 0 } : Room).slots) := by
  refine MetFree.of_bodySF (plainFor_of_name pn_com_example_matchwright_matchwright_book_LevelPool) hisR ?_
  intro p e s m args below meth c s₁ Bd hml0 hP hK
  obtain ⟨rfl, hZ, hh⟩ := hP
  have hx := Bd.exec
  have hby := Bd.bytes
  have hml : c.maxLocals = 3 := hml0
  have hown : s.vm.findClass "com/example/matchwright/matchwright/book/LevelPool" = some m.cls := findClass_of_methodNamed Bd.named
  have hnm := (name_of_methodNamed Bd.named Bd.method).1
  have X0 : Stand p l e ({ frames := 0, cells := 0, slots := 0, locals := 0 } : Room) s m #[(.ref a1), (.int (14 : Int32)), (.int p3)] below meth c s₁ [] 0 0 := Stand.of_body Bd
  have e0 : s₁.heap = h0 := by rw [← hh, Bd.state]; rfl
  have N0 := Fr.nil n0
  have pw0 : ∀ t, Steps p.tables e below (s₁.setTop (mkF m 0 #[.val (.ref a1), .val (.int (14 : Int32)), .val (.int p3)] [])) t → Steps p.tables e below (s₁.setTop (entryFrame m #[(.ref a1), (.int (14 : Int32)), (.int p3)] 3)) t := fun t k => castTop (ef_8b m a1 (14 : Int32) p3) k
  have K0 : Keep h0 h0 [fa] := Keep.refl h0 [fa]
  obtain ⟨T76, X76, e76, st76⟩ := getF X0 hx hZ hown (host := "") (Or.inl (hw _ (List.mem_of_getElem? (i := 68) rfl))) (Via.of (hw _ (List.mem_of_getElem? (i := 69) rfl))) e0 F_fields (g := (mkF m 1 #[.val (.ref a1), .val (.int (14 : Int32)), .val (.int p3)] [(.ref a1)])) rfl rfl (hb hby d8_1)
  have pw77 : ∀ t, Steps p.tables e below (T76.setTop (mkF m 9 #[.val (.ref a1), .val (.int (14 : Int32)), .val (.int p3)] [(.int p3), (.int (20 : Int32)), (.ref fa)])) t → Steps p.tables e below (s₁.setTop (entryFrame m #[(.ref a1), (.int (14 : Int32)), (.int p3)] 3)) t := by
    intro t k
    refine pw0 t ?_
    refine XS.aloadN X0.here hx rfl (hb hby d8_0) rfl rfl ?_
    show Steps p.tables e below (s₁.setTop (mkF m 1 #[.val (.ref a1), .val (.int (14 : Int32)), .val (.int p3)] [(.ref a1)])) _
    refine st76 _ ?_
    show Steps p.tables e below (T76.setTop (mkF m 4 #[.val (.ref a1), .val (.int (14 : Int32)), .val (.int p3)] [(.ref fa)])) _
    refine XS.iloadN X76.here hx rfl (hb hby d8_4) rfl ?_
    show Steps p.tables e below (T76.setTop (mkF m 5 #[.val (.ref a1), .val (.int (14 : Int32)), .val (.int p3)] [(.int (14 : Int32)), (.ref fa)])) _
    refine XS.bipush X76.here hx rfl (hb hby d8_5) ?_
    show Steps p.tables e below (T76.setTop (mkF m 7 #[.val (.ref a1), .val (.int (14 : Int32)), .val (.int p3)] [(.int (6 : Int32)), (.int (14 : Int32)), (.ref fa)])) _
    refine XS.iadd X76.here hx rfl (hb hby d8_7) rfl ?_
    show Steps p.tables e below (T76.setTop (mkF m 8 #[.val (.ref a1), .val (.int (14 : Int32)), .val (.int p3)] [(.int (20 : Int32)), (.ref fa)])) _
    refine XS.iloadN X76.here hx rfl (hb hby d8_8) rfl ?_
    show Steps p.tables e below (T76.setTop (mkF m 9 #[.val (.ref a1), .val (.int (14 : Int32)), .val (.int p3)] [(.int p3), (.int (20 : Int32)), (.ref fa)])) _
    exact k
  by_cases hc78 : p3 = (0 : Int32)
  · skip
    obtain ⟨c79, Arc79, qc79, Sc79, Mc79, Hsc79, Gc79⟩ := id H_fa
    have hinc79 : ¬ ((20 : Int32) < 0 ∨ c79.slots.size ≤ ((20 : Int32)).toNatClampNeg) := inb_of Sc79 ⟨by decide, by decide⟩
    obtain ⟨T80, h80, X80, e80, W80, st80⟩ := stJ X76 hx hZ e76 Arc79 (j := (20 : Int32)) hinc79 (g := (mkF m 17 #[.val (.ref a1), .val (.int (14 : Int32)), .val (.int p3)] [(.long (0 : Int64)), (.int (20 : Int32)), (.ref fa)])) rfl rfl (hb hby d8_17)
    have V80 := Arh.push Arc79 qc79 Sc79 Mc79 Hsc79 Gc79 rfl W80 hinc79
    have K80 : Keep h0 h80 [fa] := K0.wr W80 (Or.inl (List.mem_of_getElem? (i := 0) rfl))
    have N80 := Fr.snoc X80 N0 g_fa
    have Z80 : n0 ≤ h80.size := (Nat.le_trans Z0 (Nat.le_of_eq (Wr.size W80).symm))
    obtain ⟨fs, hr, hrun, hended, hW, hsame⟩ := X80.leave (v := none) (fun _ => rfl)
    refine ⟨_, _, pw77 _ ?_, hrun, hended, _, _, rfl, ?_, ⟨_, rfl⟩, hW, hsame.mono (by decide) (by decide)⟩
    · skip
      refine XS.ifYes X76.here hx rfl (pc0 := 9) (pc' := 16) rfl (hb hby d8_9) rfl ((if0 _ _).trans (teq hc78).1) (by decide) (by decide) ?_
      show Steps p.tables e below (T76.setTop (mkF m 16 #[.val (.ref a1), .val (.int (14 : Int32)), .val (.int p3)] [(.int (20 : Int32)), (.ref fa)])) _
      refine XS.lconst X76.here hx rfl (hb hby d8_16) ?_
      show Steps p.tables e below (T76.setTop (mkF m 17 #[.val (.ref a1), .val (.int (14 : Int32)), .val (.int p3)] [(.long (0 : Int64)), (.int (20 : Int32)), (.ref fa)])) _
      refine st80 _ ?_
      show Steps p.tables e below (T80.setTop (mkF m 18 #[.val (.ref a1), .val (.int (14 : Int32)), .val (.int p3)] [])) _
      exact X80.returnOut hx Bd.returns (hb hby d8_18) hr
    · show Q_8b Z a1 p3 fa kk hs w h0 n0 _ T80.heap _
      rw [e80]
      have hh2 := hsp
      unfold own_red at hh2
      rw [if_pos hc78] at hh2
      subst hh2
      exact ⟨rfl, N80, K80, V80⟩
  · skip
    obtain ⟨c81, Arc81, qc81, Sc81, Mc81, Hsc81, Gc81⟩ := id H_fa
    have hinc81 : ¬ ((20 : Int32) < 0 ∨ c81.slots.size ≤ ((20 : Int32)).toNatClampNeg) := inb_of Sc81 ⟨by decide, by decide⟩
    obtain ⟨T82, h82, X82, e82, W82, st82⟩ := stJ X76 hx hZ e76 Arc81 (j := (20 : Int32)) hinc81 (g := (mkF m 17 #[.val (.ref a1), .val (.int (14 : Int32)), .val (.int p3)] [(.long (1 : Int64)), (.int (20 : Int32)), (.ref fa)])) rfl rfl (hb hby d8_17)
    have V82 := Arh.push Arc81 qc81 Sc81 Mc81 Hsc81 Gc81 rfl W82 hinc81
    have K82 : Keep h0 h82 [fa] := K0.wr W82 (Or.inl (List.mem_of_getElem? (i := 0) rfl))
    have N82 := Fr.snoc X82 N0 g_fa
    have Z82 : n0 ≤ h82.size := (Nat.le_trans Z0 (Nat.le_of_eq (Wr.size W82).symm))
    obtain ⟨fs, hr, hrun, hended, hW, hsame⟩ := X82.leave (v := none) (fun _ => rfl)
    refine ⟨_, _, pw77 _ ?_, hrun, hended, _, _, rfl, ?_, ⟨_, rfl⟩, hW, hsame.mono (by decide) (by decide)⟩
    · skip
      refine XS.ifNo X76.here hx rfl (hb hby d8_9) rfl ((if0 _ _).trans (feq hc78).1) ?_
      show Steps p.tables e below (T76.setTop (mkF m 12 #[.val (.ref a1), .val (.int (14 : Int32)), .val (.int p3)] [(.int (20 : Int32)), (.ref fa)])) _
      refine XS.lconst X76.here hx rfl (hb hby d8_12) ?_
      show Steps p.tables e below (T76.setTop (mkF m 13 #[.val (.ref a1), .val (.int (14 : Int32)), .val (.int p3)] [(.long (1 : Int64)), (.int (20 : Int32)), (.ref fa)])) _
      refine XS.goto X76.here hx rfl (pc0 := 13) (pc' := 17) rfl (hb hby d8_13) (by decide) (by decide) ?_
      show Steps p.tables e below (T76.setTop (mkF m 17 #[.val (.ref a1), .val (.int (14 : Int32)), .val (.int p3)] [(.long (1 : Int64)), (.int (20 : Int32)), (.ref fa)])) _
      refine st82 _ ?_
      show Steps p.tables e below (T82.setTop (mkF m 18 #[.val (.ref a1), .val (.int (14 : Int32)), .val (.int p3)] [])) _
      exact X82.returnOut hx Bd.returns (hb hby d8_18) hr
    · show Q_8b Z a1 p3 fa kk hs w h0 n0 _ T82.heap _
      rw [e82]
      have hh2 := hsp
      unfold own_red at hh2
      rw [if_neg hc78] at hh2
      subst hh2
      exact ⟨rfl, N82, K82, V82⟩
theorem ef_9b (m : MethodId) (x0 : Addr) (x1 : Int32) : entryFrame m #[(.ref x0), (.int x1)] 2 = mkF m 0 #[.val (.ref x0), .val (.int x1)] [] := by first | (simp [entryFrame, mkF, argsToLocals, Value.category]; done) | rfl
def Q_9b (Z : State) (a1 : Addr) (fa : Addr) (kk : ClassId) (hs : List (Int32 × Value)) (w : Int64) (r : Int32) (h0 : Heap) (n0 : Nat) (v : Option Value) (h : Heap) (L : List Loc) : Prop := v = some (.int r) ∧ Fr n0 L ∧ h = h0
set_option maxRecDepth 65536 in
set_option maxHeartbeats 40000000 in
theorem rm_9b (l : Launch) (Z : State) (a0 : Array Value) (hw : ∀ d ∈ tables_1, d.before a0 Z = true) (ws : List Jvm.Cond) (a1 : Addr) (fa : Addr) (kk : ClassId) (hs : List (Int32 × Value)) (w : Int64) (r : Int32) (h0 : Heap) (n0 : Nat) (Z0 : n0 ≤ h0.size) (F_fields : Fld Z h0 a1 "com/example/matchwright/matchwright/book/RecordPool" "fields" "[J" (.ref fa)) (H_fa : Arh Z h0 fa kk .long (224 : Int32) hs [] (.long (0 : Int64))) (g_fa : n0 ≤ fa) (hne : a1 ≠ fa) (hget : getH hs [] (.long (0 : Int64)) ((20 : Int32)).toNatClampNeg = .long w) (hsp : own_isr w = r) :
    MetFree l (⟨"com/example/matchwright/matchwright/book/LevelPool", "isRed", "(I)Z"⟩ : MethodName) (head1 (Jvm.Cond.code (⟨"com/example/matchwright/matchwright/book/LevelPool", "isRed", "(I)Z"⟩ : MethodName) prog_4_method_26_code 2 (some .boolean) :: ws) ({ frames := 0, cells := 0, slots := 0, locals := 0 } : Room)) (fun a U => a = #[(.ref a1), (.int (14 : Int32))] ∧ Z.Warmed39 U.vm ∧ U.heap = h0) (fun _ _ _ _ _ => True) (fun _ U o U' => ∃ v L, o = .returned v ∧ Q_9b Z a1 fa kk hs w r h0 n0 v U'.heap L ∧ FrameEnd U o U' L ({ frames := 0, cells := 0, slots := 0, locals := 0 } : Room).cells ({ frames := 0, cells := 0, slots := 0, locals := 0 } : Room).slots) := by
  refine MetFree.of_bodySF (plainFor_of_name pn_com_example_matchwright_matchwright_book_LevelPool) hisR ?_
  intro p e s m args below meth c s₁ Bd hml0 hP hK
  obtain ⟨rfl, hZ, hh⟩ := hP
  have hx := Bd.exec
  have hby := Bd.bytes
  have hml : c.maxLocals = 2 := hml0
  have hown : s.vm.findClass "com/example/matchwright/matchwright/book/LevelPool" = some m.cls := findClass_of_methodNamed Bd.named
  have hnm := (name_of_methodNamed Bd.named Bd.method).1
  have X0 : Stand p l e ({ frames := 0, cells := 0, slots := 0, locals := 0 } : Room) s m #[(.ref a1), (.int (14 : Int32))] below meth c s₁ [] 0 0 := Stand.of_body Bd
  have e0 : s₁.heap = h0 := by rw [← hh, Bd.state]; rfl
  have N0 := Fr.nil n0
  have pw0 : ∀ t, Steps p.tables e below (s₁.setTop (mkF m 0 #[.val (.ref a1), .val (.int (14 : Int32))] [])) t → Steps p.tables e below (s₁.setTop (entryFrame m #[(.ref a1), (.int (14 : Int32))] 2)) t := fun t k => castTop (ef_9b m a1 (14 : Int32)) k
  have K0 : Keep h0 h0 [] := Keep.refl h0 []
  obtain ⟨T83, X83, e83, st83⟩ := getF X0 hx hZ hown (host := "") (Or.inl (hw _ (List.mem_of_getElem? (i := 68) rfl))) (Via.of (hw _ (List.mem_of_getElem? (i := 69) rfl))) e0 F_fields (g := (mkF m 7 #[.val (.ref a1), .val (.int (14 : Int32))] [(.ref a1)])) rfl rfl (hb hby d9_7)
  obtain ⟨c84, Arc84, qc84, Sc84, Mc84, Hsc84, Gc84⟩ := id H_fa
  have hinc84 : ¬ ((20 : Int32) < 0 ∨ c84.slots.size ≤ ((20 : Int32)).toNatClampNeg) := inb_of Sc84 ⟨by decide, by decide⟩
  have hatc84 : c84.slots[((20 : Int32)).toNatClampNeg]? = some (.long w) := atH Hsc84 hinc84 hget
  have pw85 : ∀ t, Steps p.tables e below (T83.setTop (mkF m 16 #[.val (.ref a1), .val (.int (14 : Int32))] [(.int (w.toInt32))])) t → Steps p.tables e below (s₁.setTop (entryFrame m #[(.ref a1), (.int (14 : Int32))] 2)) t := by
    intro t k
    refine pw0 t ?_
    refine XS.iloadN X0.here hx rfl (hb hby d9_0) rfl ?_
    show Steps p.tables e below (s₁.setTop (mkF m 1 #[.val (.ref a1), .val (.int (14 : Int32))] [(.int (14 : Int32))])) _
    refine X0.ldcInt hx hown (mvT hZ (hw _ (List.mem_of_getElem? (i := 87) rfl))) (g := (mkF m 1 #[.val (.ref a1), .val (.int (14 : Int32))] [(.int (14 : Int32))])) rfl (hb hby d9_1) _ ?_
    show Steps p.tables e below (s₁.setTop (mkF m 3 #[.val (.ref a1), .val (.int (14 : Int32))] [(.int (-2147483648 : Int32)), (.int (14 : Int32))])) _
    refine XS.icmpNo X0.here hx rfl (hb hby d9_3) rfl (feq (by decide : ¬ ((14 : Int32) = (-2147483648 : Int32)))).1 ?_
    show Steps p.tables e below (s₁.setTop (mkF m 6 #[.val (.ref a1), .val (.int (14 : Int32))] [])) _
    refine XS.aloadN X0.here hx rfl (hb hby d9_6) rfl rfl ?_
    show Steps p.tables e below (s₁.setTop (mkF m 7 #[.val (.ref a1), .val (.int (14 : Int32))] [(.ref a1)])) _
    refine st83 _ ?_
    show Steps p.tables e below (T83.setTop (mkF m 10 #[.val (.ref a1), .val (.int (14 : Int32))] [(.ref fa)])) _
    refine XS.iloadN X83.here hx rfl (hb hby d9_10) rfl ?_
    show Steps p.tables e below (T83.setTop (mkF m 11 #[.val (.ref a1), .val (.int (14 : Int32))] [(.int (14 : Int32)), (.ref fa)])) _
    refine XS.bipush X83.here hx rfl (hb hby d9_11) ?_
    show Steps p.tables e below (T83.setTop (mkF m 13 #[.val (.ref a1), .val (.int (14 : Int32))] [(.int (6 : Int32)), (.int (14 : Int32)), (.ref fa)])) _
    refine XS.iadd X83.here hx rfl (hb hby d9_13) rfl ?_
    show Steps p.tables e below (T83.setTop (mkF m 14 #[.val (.ref a1), .val (.int (14 : Int32))] [(.int (20 : Int32)), (.ref fa)])) _
    refine X83.laload hx (j := (20 : Int32)) (v := (.long w)) (by rw [e83]; exact Arc84.1) (State.isArrayOf_alike hZ.alike Arc84.2.1) Arc84.2.2 hinc84 hatc84 (g := (mkF m 14 #[.val (.ref a1), .val (.int (14 : Int32))] [(.int (20 : Int32)), (.ref fa)])) rfl rfl (hb hby d9_14) _ ?_
    show Steps p.tables e below (T83.setTop (mkF m 15 #[.val (.ref a1), .val (.int (14 : Int32))] [(.long w)])) _
    refine XS.l2i X83.here hx rfl (hb hby d9_15) rfl ?_
    show Steps p.tables e below (T83.setTop (mkF m 16 #[.val (.ref a1), .val (.int (14 : Int32))] [(.int (w.toInt32))])) _
    exact k
  by_cases hc86 : (w.toInt32) = (0 : Int32)
  · skip
    obtain ⟨fs, hr, hrun, hended, hW, hsame⟩ := X83.leave (v := some (.int (0 : Int32))) (fun h => by rw [Bd.returns] at h; cases h)
    refine ⟨_, _, pw85 _ ?_, hrun, hended, _, _, rfl, ?_, ⟨_, rfl⟩, hW, hsame.mono (by decide) (by decide)⟩
    · skip
      refine XS.ifYes X83.here hx rfl (pc0 := 16) (pc' := 23) rfl (hb hby d9_16) rfl ((if0 _ _).trans (teq hc86).1) (by decide) (by decide) ?_
      show Steps p.tables e below (T83.setTop (mkF m 23 #[.val (.ref a1), .val (.int (14 : Int32))] [])) _
      refine XS.iconst X83.here hx rfl (hb hby d9_23) ?_
      show Steps p.tables e below (T83.setTop (mkF m 24 #[.val (.ref a1), .val (.int (14 : Int32))] [(.int (0 : Int32))])) _
      exact retN X83 hx (t := .boolean) Bd.returns (by simp) (hb hby d9_24) hr
    · show Q_9b Z a1 fa kk hs w r h0 n0 _ T83.heap _
      rw [e83]
      exact ⟨by rw [← hsp]; unfold own_isr; rw [if_pos hc86], N0, rfl⟩
  · skip
    obtain ⟨fs, hr, hrun, hended, hW, hsame⟩ := X83.leave (v := some (.int (1 : Int32))) (fun h => by rw [Bd.returns] at h; cases h)
    refine ⟨_, _, pw85 _ ?_, hrun, hended, _, _, rfl, ?_, ⟨_, rfl⟩, hW, hsame.mono (by decide) (by decide)⟩
    · skip
      refine XS.ifNo X83.here hx rfl (hb hby d9_16) rfl ((if0 _ _).trans (feq hc86).1) ?_
      show Steps p.tables e below (T83.setTop (mkF m 19 #[.val (.ref a1), .val (.int (14 : Int32))] [])) _
      refine XS.iconst X83.here hx rfl (hb hby d9_19) ?_
      show Steps p.tables e below (T83.setTop (mkF m 20 #[.val (.ref a1), .val (.int (14 : Int32))] [(.int (1 : Int32))])) _
      refine XS.goto X83.here hx rfl (pc0 := 20) (pc' := 24) rfl (hb hby d9_20) (by decide) (by decide) ?_
      show Steps p.tables e below (T83.setTop (mkF m 24 #[.val (.ref a1), .val (.int (14 : Int32))] [(.int (1 : Int32))])) _
      exact retN X83 hx (t := .boolean) Bd.returns (by simp) (hb hby d9_24) hr
    · show Q_9b Z a1 fa kk hs w r h0 n0 _ T83.heap _
      rw [e83]
      exact ⟨by rw [← hsp]; unfold own_isr; rw [if_neg hc86], N0, rfl⟩
theorem ef_9m (m : MethodId) (x0 : Addr) (x1 : Int32) : entryFrame m #[(.ref x0), (.int x1)] 2 = mkF m 0 #[.val (.ref x0), .val (.int x1)] [] := by first | (simp [entryFrame, mkF, argsToLocals, Value.category]; done) | rfl
def Q_9m (Z : State) (a1 : Addr) (h0 : Heap) (n0 : Nat) (v : Option Value) (h : Heap) (L : List Loc) : Prop := v = some (.int 0) ∧ Fr n0 L ∧ h = h0
set_option maxRecDepth 65536 in
set_option maxHeartbeats 40000000 in
theorem rm_9m (l : Launch) (Z : State) (a0 : Array Value) (hw : ∀ d ∈ tables_1, d.before a0 Z = true) (ws : List Jvm.Cond) (a1 : Addr) (h0 : Heap) (n0 : Nat) (Z0 : n0 ≤ h0.size)  :
    MetFree l (⟨"com/example/matchwright/matchwright/book/LevelPool", "isRed", "(I)Z"⟩ : MethodName) (head1 (Jvm.Cond.code (⟨"com/example/matchwright/matchwright/book/LevelPool", "isRed", "(I)Z"⟩ : MethodName) prog_4_method_26_code 2 (some .boolean) :: ws) ({ frames := 0, cells := 0, slots := 0, locals := 0 } : Room)) (fun a U => a = #[(.ref a1), (.int (-2147483648 : Int32))] ∧ Z.Warmed39 U.vm ∧ U.heap = h0) (fun _ _ _ _ _ => True) (fun _ U o U' => ∃ v L, o = .returned v ∧ Q_9m Z a1 h0 n0 v U'.heap L ∧ FrameEnd U o U' L ({ frames := 0, cells := 0, slots := 0, locals := 0 } : Room).cells ({ frames := 0, cells := 0, slots := 0, locals := 0 } : Room).slots) := by
  refine MetFree.of_bodySF (plainFor_of_name pn_com_example_matchwright_matchwright_book_LevelPool) hisR ?_
  intro p e s m args below meth c s₁ Bd hml0 hP hK
  obtain ⟨rfl, hZ, hh⟩ := hP
  have hx := Bd.exec
  have hby := Bd.bytes
  have hml : c.maxLocals = 2 := hml0
  have hown : s.vm.findClass "com/example/matchwright/matchwright/book/LevelPool" = some m.cls := findClass_of_methodNamed Bd.named
  have hnm := (name_of_methodNamed Bd.named Bd.method).1
  have X0 : Stand p l e ({ frames := 0, cells := 0, slots := 0, locals := 0 } : Room) s m #[(.ref a1), (.int (-2147483648 : Int32))] below meth c s₁ [] 0 0 := Stand.of_body Bd
  have e0 : s₁.heap = h0 := by rw [← hh, Bd.state]; rfl
  have N0 := Fr.nil n0
  have pw0 : ∀ t, Steps p.tables e below (s₁.setTop (mkF m 0 #[.val (.ref a1), .val (.int (-2147483648 : Int32))] [])) t → Steps p.tables e below (s₁.setTop (entryFrame m #[(.ref a1), (.int (-2147483648 : Int32))] 2)) t := fun t k => castTop (ef_9m m a1 (-2147483648 : Int32)) k
  have K0 : Keep h0 h0 [] := Keep.refl h0 []
  obtain ⟨fs, hr, hrun, hended, hW, hsame⟩ := X0.leave (v := some (.int (0 : Int32))) (fun h => by rw [Bd.returns] at h; cases h)
  refine ⟨_, _, pw0 _ ?_, hrun, hended, _, _, rfl, ?_, ⟨_, rfl⟩, hW, hsame.mono (by decide) (by decide)⟩
  · skip
    refine XS.iloadN X0.here hx rfl (hb hby d9_0) rfl ?_
    show Steps p.tables e below (s₁.setTop (mkF m 1 #[.val (.ref a1), .val (.int (-2147483648 : Int32))] [(.int (-2147483648 : Int32))])) _
    refine X0.ldcInt hx hown (mvT hZ (hw _ (List.mem_of_getElem? (i := 87) rfl))) (g := (mkF m 1 #[.val (.ref a1), .val (.int (-2147483648 : Int32))] [(.int (-2147483648 : Int32))])) rfl (hb hby d9_1) _ ?_
    show Steps p.tables e below (s₁.setTop (mkF m 3 #[.val (.ref a1), .val (.int (-2147483648 : Int32))] [(.int (-2147483648 : Int32)), (.int (-2147483648 : Int32))])) _
    refine XS.icmpYes X0.here hx rfl (pc0 := 3) (pc' := 23) rfl (hb hby d9_3) rfl (teq (by decide : (-2147483648 : Int32) = (-2147483648 : Int32))).1 (by decide) (by decide) ?_
    show Steps p.tables e below (s₁.setTop (mkF m 23 #[.val (.ref a1), .val (.int (-2147483648 : Int32))] [])) _
    refine XS.iconst X0.here hx rfl (hb hby d9_23) ?_
    show Steps p.tables e below (s₁.setTop (mkF m 24 #[.val (.ref a1), .val (.int (-2147483648 : Int32))] [(.int (0 : Int32))])) _
    exact retN X0 hx (t := .boolean) Bd.returns (by simp) (hb hby d9_24) hr
  · show Q_9m Z a1 h0 n0 _ s₁.heap _
    rw [e0]
    exact ⟨rfl, N0, rfl⟩
theorem ef_0 (m : MethodId) (x0 : Int64) (x1 : Int64) (x2 : Int64) (x3 : Int64) (x4 : Int32) : entryFrame m #[(.long x0), (.long x1), (.long x2), (.long x3), (.int x4)] maxLocals = mkF m 0 #[.val (.long x0), .second, .val (.long x1), .second, .val (.long x2), .second, .val (.long x3), .second, .val (.int x4), .unset, .unset, .unset, .unset, .unset, .unset, .unset, .unset, .unset] [] := by first | (simp [entryFrame, mkF, argsToLocals, Value.category, maxLocals]; done) | rfl
theorem pn_com_example_matchwright_matchwright_book_LevelPoolIsRedPinLaw : plainName "com/example/matchwright/matchwright/book/LevelPoolIsRedPinLaw" = true := by first | (simp [plainName, overriddenIn]; done) | decide +kernel
def Q_0 (Z : State) (x0 : Int64) (x1 : Int64) (x2 : Int64) (x3 : Int64) (x4 : Int32) (ea eb : Int32) (h0 : Heap) (n0 : Nat) (v : Option Value) (h : Heap) (L : List Loc) : Prop := v = some (.int 1) ∧ Fr n0 L
set_option maxRecDepth 65536 in
set_option maxHeartbeats 40000000 in
theorem rm_0 (l : Launch) (Z : State) (a0 : Array Value) (hw : ∀ d ∈ tables_1, d.before a0 Z = true) (ws : List Jvm.Cond) (x0 : Int64) (x1 : Int64) (x2 : Int64) (x3 : Int64) (x4 : Int32) (ea eb : Int32) (h0 : Heap) (n0 : Nat) (Z0 : n0 ≤ h0.size) (sea : own_bit x4 1 = ea) (seb : own_bit x4 2 = eb) (hea : ea = (0 : Int32) ∨ ea = (1 : Int32)) (heb : eb = (0 : Int32) ∨ eb = (1 : Int32)) :
    MetFree l x (head1 (Jvm.Cond.code x code maxLocals ret :: ws) room_1) (fun a U => a = #[(.long x0), (.long x1), (.long x2), (.long x3), (.int x4)] ∧ Z.Warmed39 U.vm ∧ U.heap = h0) (fun _ _ _ _ _ => True) (fun _ U o U' => ∃ v L, o = .returned v ∧ Q_0 Z x0 x1 x2 x3 x4 ea eb h0 n0 v U'.heap L ∧ ReturnedEndW U o U' L room_1.cells room_1.slots) := by
  refine MetFree.of_bodySF (plainFor_of_name pn_com_example_matchwright_matchwright_book_LevelPoolIsRedPinLaw) hisR ?_
  intro p e s m args below meth c s₁ Bd hml0 hP hK
  obtain ⟨rfl, hZ, hh⟩ := hP
  have hx := Bd.exec
  have hby := Bd.bytes
  have hml : c.maxLocals = 18 := hml0
  have hown : s.vm.findClass "com/example/matchwright/matchwright/book/LevelPoolIsRedPinLaw" = some m.cls := findClass_of_methodNamed Bd.named
  have hnm := (name_of_methodNamed Bd.named Bd.method).1
  have X0 : Stand p l e room_1 s m #[(.long x0), (.long x1), (.long x2), (.long x3), (.int x4)] below meth c s₁ [] 0 0 := Stand.of_body Bd
  have e0 : s₁.heap = h0 := by rw [← hh, Bd.state]; rfl
  have N0 := Fr.nil n0
  have pw0 : ∀ t, Steps p.tables e below (s₁.setTop (mkF m 0 #[.val (.long x0), .second, .val (.long x1), .second, .val (.long x2), .second, .val (.long x3), .second, .val (.int x4), .unset, .unset, .unset, .unset, .unset, .unset, .unset, .unset, .unset] [])) t → Steps p.tables e below (s₁.setTop (entryFrame m #[(.long x0), (.long x1), (.long x2), (.long x3), (.int x4)] maxLocals)) t := fun t k => castTop (ef_0 m x0 x1 x2 x3 x4) k
  have K0 : Keep h0 h0 [] := Keep.refl h0 []
  have hS0 : s.Since s.vm h0.size := (State.WarmedH.refl s).since _
  have pw87 : ∀ t, Steps p.tables e below (s₁.setTop (mkF m 4 #[.val (.long x0), .second, .val (.long x1), .second, .val (.long x2), .second, .val (.long x3), .second, .val (.int x4), .unset, .unset, .unset, .unset, .unset, .unset, .unset, .unset, .unset] [(.int (x4 &&& (1 : Int32)))])) t → Steps p.tables e below (s₁.setTop (entryFrame m #[(.long x0), (.long x1), (.long x2), (.long x3), (.int x4)] maxLocals)) t := by
    intro t k
    refine pw0 t ?_
    refine XS.iload X0.here hx rfl (hb hby at_0) rfl ?_
    show Steps p.tables e below (s₁.setTop (mkF m 2 #[.val (.long x0), .second, .val (.long x1), .second, .val (.long x2), .second, .val (.long x3), .second, .val (.int x4), .unset, .unset, .unset, .unset, .unset, .unset, .unset, .unset, .unset] [(.int x4)])) _
    refine XS.iconst X0.here hx rfl (hb hby at_2) ?_
    show Steps p.tables e below (s₁.setTop (mkF m 3 #[.val (.long x0), .second, .val (.long x1), .second, .val (.long x2), .second, .val (.long x3), .second, .val (.int x4), .unset, .unset, .unset, .unset, .unset, .unset, .unset, .unset, .unset] [(.int (1 : Int32)), (.int x4)])) _
    refine XS.iand X0.here hx rfl (hb hby at_3) rfl ?_
    show Steps p.tables e below (s₁.setTop (mkF m 4 #[.val (.long x0), .second, .val (.long x1), .second, .val (.long x2), .second, .val (.long x3), .second, .val (.int x4), .unset, .unset, .unset, .unset, .unset, .unset, .unset, .unset, .unset] [(.int (x4 &&& (1 : Int32)))])) _
    exact k
  have pw89 : ∀ t, Steps p.tables e below (s₁.setTop (mkF m 12 #[.val (.long x0), .second, .val (.long x1), .second, .val (.long x2), .second, .val (.long x3), .second, .val (.int x4), .unset, .unset, .unset, .unset, .unset, .unset, .unset, .unset, .unset] [(.int ea)])) t → Steps p.tables e below (s₁.setTop (entryFrame m #[(.long x0), (.long x1), (.long x2), (.long x3), (.int x4)] maxLocals)) t := by
    intro t k
    by_cases hc88 : (x4 &&& (1 : Int32)) = (0 : Int32)
    · have hv : (0 : Int32) = ea := (sea.symm.trans (if_pos hc88)).symm
      subst hv
      refine pw87 t ?_
      refine XS.ifYes X0.here hx rfl (pc0 := 4) (pc' := 11) rfl (hb hby at_4) rfl ((if0 _ _).trans (teq hc88).1) (by decide) (by decide) ?_
      show Steps p.tables e below (s₁.setTop (mkF m 11 #[.val (.long x0), .second, .val (.long x1), .second, .val (.long x2), .second, .val (.long x3), .second, .val (.int x4), .unset, .unset, .unset, .unset, .unset, .unset, .unset, .unset, .unset] [])) _
      refine XS.iconst X0.here hx rfl (hb hby at_11) ?_
      exact k
    · have hv : (1 : Int32) = ea := (sea.symm.trans (if_neg hc88)).symm
      subst hv
      refine pw87 t ?_
      refine XS.ifNo X0.here hx rfl (hb hby at_4) rfl ((if0 _ _).trans (feq hc88).1) ?_
      show Steps p.tables e below (s₁.setTop (mkF m 7 #[.val (.long x0), .second, .val (.long x1), .second, .val (.long x2), .second, .val (.long x3), .second, .val (.int x4), .unset, .unset, .unset, .unset, .unset, .unset, .unset, .unset, .unset] [])) _
      refine XS.iconst X0.here hx rfl (hb hby at_7) ?_
      show Steps p.tables e below (s₁.setTop (mkF m 8 #[.val (.long x0), .second, .val (.long x1), .second, .val (.long x2), .second, .val (.long x3), .second, .val (.int x4), .unset, .unset, .unset, .unset, .unset, .unset, .unset, .unset, .unset] [(.int (1 : Int32))])) _
      refine XS.goto X0.here hx rfl (pc0 := 8) (pc' := 12) rfl (hb hby at_8) (by decide) (by decide) ?_
      exact k
  have pw90 : ∀ t, Steps p.tables e below (s₁.setTop (mkF m 18 #[.val (.long x0), .second, .val (.long x1), .second, .val (.long x2), .second, .val (.long x3), .second, .val (.int x4), .val (.int ea), .unset, .unset, .unset, .unset, .unset, .unset, .unset, .unset] [(.int (x4 &&& (2 : Int32)))])) t → Steps p.tables e below (s₁.setTop (entryFrame m #[(.long x0), (.long x1), (.long x2), (.long x3), (.int x4)] maxLocals)) t := by
    intro t k
    refine pw89 t ?_
    refine XS.istore X0.here hx rfl (hb hby at_12) rfl (l' := #[.val (.long x0), .second, .val (.long x1), .second, .val (.long x2), .second, .val (.long x3), .second, .val (.int x4), .val (.int ea), .unset, .unset, .unset, .unset, .unset, .unset, .unset, .unset]) rfl ?_
    show Steps p.tables e below (s₁.setTop (mkF m 14 #[.val (.long x0), .second, .val (.long x1), .second, .val (.long x2), .second, .val (.long x3), .second, .val (.int x4), .val (.int ea), .unset, .unset, .unset, .unset, .unset, .unset, .unset, .unset] [])) _
    refine XS.iload X0.here hx rfl (hb hby at_14) rfl ?_
    show Steps p.tables e below (s₁.setTop (mkF m 16 #[.val (.long x0), .second, .val (.long x1), .second, .val (.long x2), .second, .val (.long x3), .second, .val (.int x4), .val (.int ea), .unset, .unset, .unset, .unset, .unset, .unset, .unset, .unset] [(.int x4)])) _
    refine XS.iconst X0.here hx rfl (hb hby at_16) ?_
    show Steps p.tables e below (s₁.setTop (mkF m 17 #[.val (.long x0), .second, .val (.long x1), .second, .val (.long x2), .second, .val (.long x3), .second, .val (.int x4), .val (.int ea), .unset, .unset, .unset, .unset, .unset, .unset, .unset, .unset] [(.int (2 : Int32)), (.int x4)])) _
    refine XS.iand X0.here hx rfl (hb hby at_17) rfl ?_
    show Steps p.tables e below (s₁.setTop (mkF m 18 #[.val (.long x0), .second, .val (.long x1), .second, .val (.long x2), .second, .val (.long x3), .second, .val (.int x4), .val (.int ea), .unset, .unset, .unset, .unset, .unset, .unset, .unset, .unset] [(.int (x4 &&& (2 : Int32)))])) _
    exact k
  have pw92 : ∀ t, Steps p.tables e below (s₁.setTop (mkF m 26 #[.val (.long x0), .second, .val (.long x1), .second, .val (.long x2), .second, .val (.long x3), .second, .val (.int x4), .val (.int ea), .unset, .unset, .unset, .unset, .unset, .unset, .unset, .unset] [(.int eb)])) t → Steps p.tables e below (s₁.setTop (entryFrame m #[(.long x0), (.long x1), (.long x2), (.long x3), (.int x4)] maxLocals)) t := by
    intro t k
    by_cases hc91 : (x4 &&& (2 : Int32)) = (0 : Int32)
    · have hv : (0 : Int32) = eb := (seb.symm.trans (if_pos hc91)).symm
      subst hv
      refine pw90 t ?_
      refine XS.ifYes X0.here hx rfl (pc0 := 18) (pc' := 25) rfl (hb hby at_18) rfl ((if0 _ _).trans (teq hc91).1) (by decide) (by decide) ?_
      show Steps p.tables e below (s₁.setTop (mkF m 25 #[.val (.long x0), .second, .val (.long x1), .second, .val (.long x2), .second, .val (.long x3), .second, .val (.int x4), .val (.int ea), .unset, .unset, .unset, .unset, .unset, .unset, .unset, .unset] [])) _
      refine XS.iconst X0.here hx rfl (hb hby at_25) ?_
      exact k
    · have hv : (1 : Int32) = eb := (seb.symm.trans (if_neg hc91)).symm
      subst hv
      refine pw90 t ?_
      refine XS.ifNo X0.here hx rfl (hb hby at_18) rfl ((if0 _ _).trans (feq hc91).1) ?_
      show Steps p.tables e below (s₁.setTop (mkF m 21 #[.val (.long x0), .second, .val (.long x1), .second, .val (.long x2), .second, .val (.long x3), .second, .val (.int x4), .val (.int ea), .unset, .unset, .unset, .unset, .unset, .unset, .unset, .unset] [])) _
      refine XS.iconst X0.here hx rfl (hb hby at_21) ?_
      show Steps p.tables e below (s₁.setTop (mkF m 22 #[.val (.long x0), .second, .val (.long x1), .second, .val (.long x2), .second, .val (.long x3), .second, .val (.int x4), .val (.int ea), .unset, .unset, .unset, .unset, .unset, .unset, .unset, .unset] [(.int (1 : Int32))])) _
      refine XS.goto X0.here hx rfl (pc0 := 22) (pc' := 26) rfl (hb hby at_22) (by decide) (by decide) ?_
      exact k
  obtain ⟨T93, h93, X93, e93, E93, A93, D93, -, st93⟩ := newO X0 hx hZ hown (hw _ (List.mem_of_getElem? (i := 0) rfl)) (hw _ (List.mem_of_getElem? (i := 1) rfl)) (hw _ (List.mem_of_getElem? (i := 2) rfl)) e0 (g := (mkF m 28 #[.val (.long x0), .second, .val (.long x1), .second, .val (.long x2), .second, .val (.long x3), .second, .val (.int x4), .val (.int ea), .val (.int eb), .unset, .unset, .unset, .unset, .unset, .unset, .unset] [])) rfl (hb hby at_28) (by decide) (by decide)
  obtain ⟨b93, g93⟩ : ∃ z, z = h0.size := ⟨_, rfl⟩
  rw [← g93] at A93 D93 st93
  have g_b93 : n0 ≤ b93 := Nat.le_trans Z0 (Nat.le_of_eq g93.symm)
  have sz_b93 : h0.size ≤ b93 := Nat.le_trans K0.1 (Nat.le_of_eq g93.symm)
  have F_spares_b93 : Fld Z h93 b93 "com/example/matchwright/matchwright/book/RecordPool" "spares" "I" (.int (0 : Int32)) := D93 (Or.inl (hw _ (List.mem_of_getElem? (i := 24) rfl))) (ty := .int) (by decide)
  have F_fieldsPerRecord_b93 : Fld Z h93 b93 "com/example/matchwright/matchwright/book/RecordPool" "fieldsPerRecord" "I" (.int (0 : Int32)) := D93 (Or.inr (hw _ (List.mem_of_getElem? (i := 26) rfl))) (ty := .int) (by decide)
  have F_spareLink_b93 : Fld Z h93 b93 "com/example/matchwright/matchwright/book/RecordPool" "spareLink" "I" (.int (0 : Int32)) := D93 (Or.inr (hw _ (List.mem_of_getElem? (i := 28) rfl))) (ty := .int) (by decide)
  have F_kind_b93 : Fld Z h93 b93 "com/example/matchwright/matchwright/book/RecordPool" "kind" "Ljava/lang/String;" .null := D93 (Or.inr (hw _ (List.mem_of_getElem? (i := 30) rfl))) (ty := (.object "java/lang/String")) (by decide)
  have F_maxLength_b93 : Fld Z h93 b93 "com/example/matchwright/matchwright/book/RecordPool" "maxLength" "I" (.int (0 : Int32)) := D93 (Or.inr (hw _ (List.mem_of_getElem? (i := 33) rfl))) (ty := .int) (by decide)
  have F_fields_b93 : Fld Z h93 b93 "com/example/matchwright/matchwright/book/RecordPool" "fields" "[J" .null := D93 (Or.inl (hw _ (List.mem_of_getElem? (i := 36) rfl))) (ty := (.array .long)) (by decide)
  have K93 : Keep h0 h93 [] := K0.ext E93
  have Z93 : n0 ≤ h93.size := (Nat.le_trans Z0 E93.1)
  have ks93 : _ ≤ h93.size := (Nat.le_trans (Nat.le_refl h0.size) E93.1)
  obtain ⟨_, _, ⟨T94, L94, k94, n94⟩, -, X94, hSq94, hgr94, ⟨Lc94, hQ94, l94, y94, z94⟩, st94⟩ := X93.specialBackS hx (y := (⟨"com/example/matchwright/matchwright/book/OrderPool", "<init>", "()V"⟩ : MethodName)) rfl hown (mvT hZ (hw _ (List.mem_of_getElem? (i := 3) rfl))) (mvT hZ (hw _ (List.mem_of_getElem? (i := 4) rfl))) (mvT hZ (hw _ (List.mem_of_getElem? (i := 5) rfl))) (by decide) (backOfS (W := 1) (rm_1 l Z a0 hw [] b93 h93 n0 Z93 A93 F_spares_b93 F_fieldsPerRecord_b93 F_spareLink_b93 F_kind_b93 F_maxLength_b93 F_fields_b93 g_b93) hZ (hw _ (List.mem_of_getElem? (i := 5) rfl)) (hw _ (List.mem_of_getElem? (i := 2) rfl)) (by decide) (by decide)) (g := (mkF m 32 #[.val (.long x0), .second, .val (.long x1), .second, .val (.long x2), .second, .val (.long x3), .second, .val (.int x4), .val (.int ea), .val (.int eb), .unset, .unset, .unset, .unset, .unset, .unset, .unset] [(.ref b93), (.ref b93)])) rfl (by rw [hml]; rfl) (Steps.refl _) (a := b93) (argsL := []) (rest := [(.ref b93)]) (lenOf pd___V rfl) rfl (by show 2 * 0 + _ ≤ _; exact Nat.le_of_eq rfl) (hb hby at_32) (fun _ _ => ⟨rfl, e93, (by decide : 1 + 3 ≤ _), (by decide : 8 + 204 ≤ _)⟩)
  dsimp only [Pt.U, Pt.locs, Pt.cells, Pt.slots] at X94 l94 y94 z94 st94 hQ94 hSq94 hgr94
  subst l94 y94 z94
  obtain ⟨rfl, N94q, K94q, E94q⟩ := hQ94
  have N94 := Fr.app N0 N94q
  have K94 : Keep h0 T94.heap [] := K93.trans K94q (allS (P := fun x => x ∈ [] ∨ h0.size ≤ x) (Or.inr sz_b93) all0)
  have Z94 : n0 ≤ T94.heap.size := (Nat.le_trans Z93 K94q.1)
  have ks94 : _ ≤ T94.heap.size := (Nat.le_trans ks93 K94q.1)
  have X94 : Stand p l e room_1 (s.setVm T94.vm) m #[(.long x0), (.long x1), (.long x2), (.long x3), (.int x4)] below meth c T94 _ _ _ := X94
  have hS94 := foldS hS0 (show _ ≤ T93.heap.size by rw [e93]; exact ks93) hSq94 hgr94
  have hZ := State.Warmed39.trans hZ hSq94.1
  have hown : (s.setVm T94.vm).vm.findClass "com/example/matchwright/matchwright/book/LevelPoolIsRedPinLaw" = some m.cls := by rw [show (s.setVm T94.vm).vm = T94.vm from rfl, hSq94.1.alike.findClass]; exact hown
  obtain ⟨T95, h95, X95, e95, E95, A95, D95, -, st95⟩ := newO X94 hx hZ hown (hw _ (List.mem_of_getElem? (i := 37) rfl)) (hw _ (List.mem_of_getElem? (i := 38) rfl)) (hw _ (List.mem_of_getElem? (i := 39) rfl)) rfl (g := (mkF m 37 #[.val (.long x0), .second, .val (.long x1), .second, .val (.long x2), .second, .val (.long x3), .second, .val (.int x4), .val (.int ea), .val (.int eb), .val (.ref b93), .unset, .unset, .unset, .unset, .unset, .unset] [])) rfl (hb hby at_37) (by decide) (by decide)
  obtain ⟨b95, g95⟩ : ∃ z, z = T94.heap.size := ⟨_, rfl⟩
  rw [← g95] at A95 D95 st95
  have g_b95 : n0 ≤ b95 := Nat.le_trans Z94 (Nat.le_of_eq g95.symm)
  have sz_b95 : h0.size ≤ b95 := Nat.le_trans K94.1 (Nat.le_of_eq g95.symm)
  have F_spares_b95 : Fld Z h95 b95 "com/example/matchwright/matchwright/book/RecordPool" "spares" "I" (.int (0 : Int32)) := D95 (Or.inl (hw _ (List.mem_of_getElem? (i := 45) rfl))) (ty := .int) (by decide)
  have F_fieldsPerRecord_b95 : Fld Z h95 b95 "com/example/matchwright/matchwright/book/RecordPool" "fieldsPerRecord" "I" (.int (0 : Int32)) := D95 (Or.inr (hw _ (List.mem_of_getElem? (i := 46) rfl))) (ty := .int) (by decide)
  have F_spareLink_b95 : Fld Z h95 b95 "com/example/matchwright/matchwright/book/RecordPool" "spareLink" "I" (.int (0 : Int32)) := D95 (Or.inr (hw _ (List.mem_of_getElem? (i := 47) rfl))) (ty := .int) (by decide)
  have F_kind_b95 : Fld Z h95 b95 "com/example/matchwright/matchwright/book/RecordPool" "kind" "Ljava/lang/String;" .null := D95 (Or.inr (hw _ (List.mem_of_getElem? (i := 48) rfl))) (ty := (.object "java/lang/String")) (by decide)
  have F_maxLength_b95 : Fld Z h95 b95 "com/example/matchwright/matchwright/book/RecordPool" "maxLength" "I" (.int (0 : Int32)) := D95 (Or.inr (hw _ (List.mem_of_getElem? (i := 49) rfl))) (ty := .int) (by decide)
  have F_fields_b95 : Fld Z h95 b95 "com/example/matchwright/matchwright/book/RecordPool" "fields" "[J" .null := D95 (Or.inl (hw _ (List.mem_of_getElem? (i := 50) rfl))) (ty := (.array .long)) (by decide)
  have F_orders_b95 : Fld Z h95 b95 "com/example/matchwright/matchwright/book/LevelPool" "orders" "Lcom/example/matchwright/matchwright/book/OrderPool;" .null := D95 (Or.inr (hw _ (List.mem_of_getElem? (i := 52) rfl))) (ty := (.object "com/example/matchwright/matchwright/book/OrderPool")) (by decide)
  have F_inUse_b95 : Fld Z h95 b95 "com/example/matchwright/matchwright/book/RecordPool" "inUse" "I" (.int (0 : Int32)) := D95 (Or.inl (hw _ (List.mem_of_getElem? (i := 65) rfl))) (ty := .int) (by decide)
  have F_end_b95 : Fld Z h95 b95 "com/example/matchwright/matchwright/book/RecordPool" "end" "I" (.int (0 : Int32)) := D95 (Or.inl (hw _ (List.mem_of_getElem? (i := 67) rfl))) (ty := .int) (by decide)
  have K95 : Keep h0 h95 [] := K94.ext E95
  have Z95 : n0 ≤ h95.size := (Nat.le_trans Z94 E95.1)
  have ks95 : _ ≤ h95.size := (Nat.le_trans (Nat.le_refl T94.heap.size) E95.1)
  obtain ⟨_, _, ⟨T96, L96, k96, n96⟩, -, X96, hSq96, hgr96, ⟨Lc96, hQ96, l96, y96, z96⟩, st96⟩ := X95.specialBackS hx (y := (⟨"com/example/matchwright/matchwright/book/LevelPool", "<init>", "(Lcom/example/matchwright/matchwright/book/OrderPool;)V"⟩ : MethodName)) rfl hown (mvT hZ (hw _ (List.mem_of_getElem? (i := 40) rfl))) (mvT hZ (hw _ (List.mem_of_getElem? (i := 41) rfl))) (mvT hZ (hw _ (List.mem_of_getElem? (i := 42) rfl))) (by decide) (backOfS (W := 1) (rm_4 l Z a0 hw [] b95 b93 h95 n0 Z95 A95 F_spares_b95 F_fieldsPerRecord_b95 F_spareLink_b95 F_kind_b95 F_maxLength_b95 F_fields_b95 F_inUse_b95 F_end_b95 g_b95 F_orders_b95) hZ (hw _ (List.mem_of_getElem? (i := 42) rfl)) (hw _ (List.mem_of_getElem? (i := 39) rfl)) (by decide) (by decide)) (g := (mkF m 43 #[.val (.long x0), .second, .val (.long x1), .second, .val (.long x2), .second, .val (.long x3), .second, .val (.int x4), .val (.int ea), .val (.int eb), .val (.ref b93), .unset, .unset, .unset, .unset, .unset, .unset] [(.ref b93), (.ref b95), (.ref b95)])) rfl (by rw [hml]; rfl) (Steps.refl _) (a := b95) (argsL := [(.ref b93)]) (rest := [(.ref b95)]) (lenOf pd__Lcom_example_matchwright_matchwright_book_OrderPool__V rfl) rfl (by show 2 * 0 + _ ≤ _; exact Nat.le_of_eq rfl) (hb hby at_43) (fun _ _ => ⟨rfl, e95, (by decide : 5 + 3 ≤ _), (by decide : 221 + 364 ≤ _)⟩)
  dsimp only [Pt.U, Pt.locs, Pt.cells, Pt.slots] at X96 l96 y96 z96 st96 hQ96 hSq96 hgr96
  subst l96 y96 z96
  obtain ⟨rfl, N96q, K96q, E96q, F096q, F196q, F296q, F396q, fa96, kf96, hfa96, Ff96q, Ha96q⟩ := hQ96
  have N96 := Fr.app N94 N96q
  have K96 : Keep h0 T96.heap [] := K95.trans K96q (allS (P := fun x => x ∈ [] ∨ h0.size ≤ x) (Or.inr sz_b95) all0)
  have Z96 : n0 ≤ T96.heap.size := (Nat.le_trans Z95 K96q.1)
  have ks96 : _ ≤ T96.heap.size := (Nat.le_trans ks95 K96q.1)
  have X96 : Stand p l e room_1 (s.setVm T96.vm) m #[(.long x0), (.long x1), (.long x2), (.long x3), (.int x4)] below meth c T96 _ _ _ := X96
  have hS96 := foldS hS94 (show _ ≤ T95.heap.size by rw [e95]; exact ks95) hSq96 hgr96
  have hZ := State.Warmed39.trans hZ hSq96.1
  have hown : (s.setVm T96.vm).vm.findClass "com/example/matchwright/matchwright/book/LevelPoolIsRedPinLaw" = some m.cls := by rw [show (s.setVm T96.vm).vm = T96.vm from rfl, hSq96.1.alike.findClass]; exact hown
  have hne : b95 ≠ fa96 := Nat.ne_of_lt (Nat.lt_of_lt_of_le (A95).lt hfa96)
  have g_fa96 : n0 ≤ fa96 := Nat.le_trans Z95 hfa96
  have sz_fa96 : h0.size ≤ fa96 := Nat.le_trans K95.1 hfa96
  obtain ⟨cq97, kq97, q97a, q97b, q97c⟩ := isOf hZ rfl E96q
  obtain ⟨_, _, ⟨T97, L97, k97, n97⟩, -, X97, ⟨Lc97, hQ97, l97, y97, z97⟩, st97⟩ := X96.virtualBack hx (y := (⟨"com/example/matchwright/matchwright/book/LevelPool", "take", "(JJ)I"⟩ : MethodName)) (z := (⟨"com/example/matchwright/matchwright/book/LevelPool", "take", "(JJ)I"⟩ : MethodName)) hown (mvT hZ (hw _ (List.mem_of_getElem? (i := 53) rfl))) (mvT hZ (hw _ (List.mem_of_getElem? (i := 54) rfl))) (notFace_of_selects (args := #[]) (mvT hZ (hw _ (List.mem_of_getElem? (i := 56) rfl)))) (mvT hZ (hw _ (List.mem_of_getElem? (i := 56) rfl))) (mvT hZ (hw _ (List.mem_of_getElem? (i := 55) rfl))) (by decide) (backOf (W := 0) (rm_5a l Z a0 hw [] b95 x0 x1 fa96 kf96 [] T96.heap n0 Z96 E96q F096q F196q F296q F396q Ff96q Ha96q g_b95 g_fa96 hne) hZ (hw _ (List.mem_of_getElem? (i := 57) rfl)) (hw _ (List.mem_of_getElem? (i := 39) rfl)) (by decide) (by decide)) q97a q97c (g := (mkF m 52 #[.val (.long x0), .second, .val (.long x1), .second, .val (.long x2), .second, .val (.long x3), .second, .val (.int x4), .val (.int ea), .val (.int eb), .val (.ref b93), .val (.ref b95), .unset, .unset, .unset, .unset, .unset] [(.long x1), (.long x0), (.ref b95)])) rfl (by rw [hml]; rfl) (Steps.refl _) (argsL := [(.long x0), (.long x1)]) (rest := []) (lenOf pd__JJ_I rfl) rfl (by show 2 * 0 + _ ≤ _; exact Nat.le_of_eq rfl) (hb hby at_52) (fun _ _ => ⟨rfl, rfl, (by decide : 8 + 0 ≤ _), (by decide : 585 + 0 ≤ _)⟩)
  dsimp only [Pt.U, Pt.locs, Pt.cells, Pt.slots] at X97 l97 y97 z97 st97 hQ97
  subst l97 y97 z97
  obtain ⟨rfl, N97q, K97q, E97q, F097q, F197q, F297q, F397q, Ff97q, Ha97q⟩ := hQ97
  have N97 := Fr.app N96 N97q
  have K97 : Keep h0 T97.heap [] := K96.trans K97q (allS (P := fun x => x ∈ [] ∨ h0.size ≤ x) (Or.inr sz_b95) (allS (P := fun x => x ∈ [] ∨ h0.size ≤ x) (Or.inr sz_fa96) all0))
  have Z97 : n0 ≤ T97.heap.size := (Nat.le_trans Z96 K97q.1)
  have ks97 : _ ≤ T97.heap.size := (Nat.le_trans (Nat.le_refl T96.heap.size) K97q.1)
  obtain ⟨cq98, kq98, q98a, q98b, q98c⟩ := isOf hZ rfl E97q
  obtain ⟨_, _, ⟨T98, L98, k98, n98⟩, -, X98, ⟨Lc98, hQ98, l98, y98, z98⟩, st98⟩ := X97.virtualBack hx (y := (⟨"com/example/matchwright/matchwright/book/LevelPool", "take", "(JJ)I"⟩ : MethodName)) (z := (⟨"com/example/matchwright/matchwright/book/LevelPool", "take", "(JJ)I"⟩ : MethodName)) hown (mvT hZ (hw _ (List.mem_of_getElem? (i := 53) rfl))) (mvT hZ (hw _ (List.mem_of_getElem? (i := 54) rfl))) (notFace_of_selects (args := #[]) (mvT hZ (hw _ (List.mem_of_getElem? (i := 56) rfl)))) (mvT hZ (hw _ (List.mem_of_getElem? (i := 56) rfl))) (mvT hZ (hw _ (List.mem_of_getElem? (i := 55) rfl))) (by decide) (backOf (W := 0) (rm_5b l Z a0 hw [] b95 x3 x2 fa96 kf96 (((9 : Int32), .long (-2147483648 : Int64)) :: ((0 : Int32), .long x1) :: ((7 : Int32), .long x0) :: []) T97.heap n0 Z97 E97q F097q F197q F297q F397q Ff97q Ha97q g_b95 g_fa96 hne) hZ (hw _ (List.mem_of_getElem? (i := 57) rfl)) (hw _ (List.mem_of_getElem? (i := 39) rfl)) (by decide) (by decide)) q98a q98c (g := (mkF m 63 #[.val (.long x0), .second, .val (.long x1), .second, .val (.long x2), .second, .val (.long x3), .second, .val (.int x4), .val (.int ea), .val (.int eb), .val (.ref b93), .val (.ref b95), .val (.int (0 : Int32)), .unset, .unset, .unset, .unset] [(.long x2), (.long x3), (.ref b95)])) rfl (by rw [hml]; rfl) (Steps.refl _) (argsL := [(.long x3), (.long x2)]) (rest := []) (lenOf pd__JJ_I rfl) rfl (by show 2 * 0 + _ ≤ _; exact Nat.le_of_eq rfl) (hb hby at_63) (fun _ _ => ⟨rfl, rfl, (by decide : 8 + 0 ≤ _), (by decide : 585 + 0 ≤ _)⟩)
  dsimp only [Pt.U, Pt.locs, Pt.cells, Pt.slots] at X98 l98 y98 z98 st98 hQ98
  subst l98 y98 z98
  obtain ⟨rfl, N98q, K98q, E98q, F098q, F198q, F298q, F398q, Ff98q, Ha98q⟩ := hQ98
  have N98 := Fr.app N97 N98q
  have K98 : Keep h0 T98.heap [] := K97.trans K98q (allS (P := fun x => x ∈ [] ∨ h0.size ≤ x) (Or.inr sz_b95) (allS (P := fun x => x ∈ [] ∨ h0.size ≤ x) (Or.inr sz_fa96) all0))
  have Z98 : n0 ≤ T98.heap.size := (Nat.le_trans Z97 K98q.1)
  have ks98 : _ ≤ T98.heap.size := (Nat.le_trans ks97 K98q.1)
  obtain ⟨cq99, kq99, q99a, q99b, q99c⟩ := isOf hZ rfl E98q
  obtain ⟨_, _, ⟨T99, L99, k99, n99⟩, -, X99, ⟨Lc99, hQ99, l99, y99, z99⟩, st99⟩ := X98.virtualBack hx (y := (⟨"com/example/matchwright/matchwright/book/LevelPool", "setLeftQuantity", "(IJ)V"⟩ : MethodName)) (z := (⟨"com/example/matchwright/matchwright/book/LevelPool", "setLeftQuantity", "(IJ)V"⟩ : MethodName)) hown (mvT hZ (hw _ (List.mem_of_getElem? (i := 71) rfl))) (mvT hZ (hw _ (List.mem_of_getElem? (i := 72) rfl))) (notFace_of_selects (args := #[]) (mvT hZ (hw _ (List.mem_of_getElem? (i := 74) rfl)))) (mvT hZ (hw _ (List.mem_of_getElem? (i := 74) rfl))) (mvT hZ (hw _ (List.mem_of_getElem? (i := 73) rfl))) (by decide) (backOf (W := 0) (rm_7 l Z a0 hw [] b95 x2 fa96 kf96 (((23 : Int32), .long (-2147483648 : Int64)) :: ((14 : Int32), .long x2) :: ((21 : Int32), .long x3) :: (((9 : Int32), .long (-2147483648 : Int64)) :: ((0 : Int32), .long x1) :: ((7 : Int32), .long x0) :: [])) T98.heap n0 Z98 Ff98q Ha98q g_fa96 hne) hZ (hw _ (List.mem_of_getElem? (i := 75) rfl)) (hw _ (List.mem_of_getElem? (i := 39) rfl)) (by decide) (by decide)) q99a q99c (g := (mkF m 74 #[.val (.long x0), .second, .val (.long x1), .second, .val (.long x2), .second, .val (.long x3), .second, .val (.int x4), .val (.int ea), .val (.int eb), .val (.ref b93), .val (.ref b95), .val (.int (0 : Int32)), .val (.int (14 : Int32)), .unset, .unset, .unset] [(.long x2), (.int (0 : Int32)), (.ref b95)])) rfl (by rw [hml]; rfl) (Steps.refl _) (argsL := [(.int (0 : Int32)), (.long x2)]) (rest := []) (lenOf pd__IJ_V rfl) rfl (by show 2 * 0 + _ ≤ _; exact Nat.le_of_eq rfl) (hb hby at_74) (fun _ _ => ⟨rfl, rfl, (by decide : 8 + 0 ≤ _), (by decide : 585 + 0 ≤ _)⟩)
  dsimp only [Pt.U, Pt.locs, Pt.cells, Pt.slots] at X99 l99 y99 z99 st99 hQ99
  subst l99 y99 z99
  obtain ⟨rfl, N99q, K99q, Ha99q⟩ := hQ99
  have N99 := Fr.app N98 N99q
  have K99 : Keep h0 T99.heap [] := K98.trans K99q (allS (P := fun x => x ∈ [] ∨ h0.size ≤ x) (Or.inr sz_fa96) all0)
  have Z99 : n0 ≤ T99.heap.size := (Nat.le_trans Z98 K99q.1)
  have ks99 : _ ≤ T99.heap.size := (Nat.le_trans ks98 K99q.1)
  obtain ⟨cq100, kq100, q100a, q100b, q100c⟩ := isOf hZ rfl (E98q.keep K99q)
  obtain ⟨_, _, ⟨T100, L100, k100, n100⟩, -, X100, ⟨Lc100, hQ100, l100, y100, z100⟩, st100⟩ := X99.virtualBack hx (y := (⟨"com/example/matchwright/matchwright/book/LevelPool", "setRed", "(IZ)V"⟩ : MethodName)) (z := (⟨"com/example/matchwright/matchwright/book/LevelPool", "setRed", "(IZ)V"⟩ : MethodName)) hown (mvT hZ (hw _ (List.mem_of_getElem? (i := 76) rfl))) (mvT hZ (hw _ (List.mem_of_getElem? (i := 77) rfl))) (notFace_of_selects (args := #[]) (mvT hZ (hw _ (List.mem_of_getElem? (i := 79) rfl)))) (mvT hZ (hw _ (List.mem_of_getElem? (i := 79) rfl))) (mvT hZ (hw _ (List.mem_of_getElem? (i := 78) rfl))) (by decide) (backOf (W := 0) (rm_8a l Z a0 hw [] b95 ea fa96 kf96 (((4 : Int32), .long x2) :: (((23 : Int32), .long (-2147483648 : Int64)) :: ((14 : Int32), .long x2) :: ((21 : Int32), .long x3) :: (((9 : Int32), .long (-2147483648 : Int64)) :: ((0 : Int32), .long x1) :: ((7 : Int32), .long x0) :: []))) (own_red ea) T99.heap n0 Z99 (Ff98q.keep K99q (ninS hne nin0)) Ha99q g_fa96 hne rfl) hZ (hw _ (List.mem_of_getElem? (i := 80) rfl)) (hw _ (List.mem_of_getElem? (i := 39) rfl)) (by decide) (by decide)) q100a q100c (g := (mkF m 83 #[.val (.long x0), .second, .val (.long x1), .second, .val (.long x2), .second, .val (.long x3), .second, .val (.int x4), .val (.int ea), .val (.int eb), .val (.ref b93), .val (.ref b95), .val (.int (0 : Int32)), .val (.int (14 : Int32)), .unset, .unset, .unset] [(.int ea), (.int (0 : Int32)), (.ref b95)])) rfl (by rw [hml]; rfl) (Steps.refl _) (argsL := [(.int (0 : Int32)), (.int ea)]) (rest := []) (lenOf pd__IZ_V rfl) rfl (by show 2 * 0 + _ ≤ _; exact Nat.le_of_eq rfl) (hb hby at_83) (fun _ _ => ⟨rfl, rfl, (by decide : 8 + 0 ≤ _), (by decide : 585 + 0 ≤ _)⟩)
  dsimp only [Pt.U, Pt.locs, Pt.cells, Pt.slots] at X100 l100 y100 z100 st100 hQ100
  subst l100 y100 z100
  obtain ⟨rfl, N100q, K100q, Ha100q⟩ := hQ100
  have N100 := Fr.app N99 N100q
  have K100 : Keep h0 T100.heap [] := K99.trans K100q (allS (P := fun x => x ∈ [] ∨ h0.size ≤ x) (Or.inr sz_fa96) all0)
  have Z100 : n0 ≤ T100.heap.size := (Nat.le_trans Z99 K100q.1)
  have ks100 : _ ≤ T100.heap.size := (Nat.le_trans ks99 K100q.1)
  obtain ⟨cq101, kq101, q101a, q101b, q101c⟩ := isOf hZ rfl ((E98q.keep K99q).keep K100q)
  obtain ⟨_, _, ⟨T101, L101, k101, n101⟩, -, X101, ⟨Lc101, hQ101, l101, y101, z101⟩, st101⟩ := X100.virtualBack hx (y := (⟨"com/example/matchwright/matchwright/book/LevelPool", "setRed", "(IZ)V"⟩ : MethodName)) (z := (⟨"com/example/matchwright/matchwright/book/LevelPool", "setRed", "(IZ)V"⟩ : MethodName)) hown (mvT hZ (hw _ (List.mem_of_getElem? (i := 76) rfl))) (mvT hZ (hw _ (List.mem_of_getElem? (i := 77) rfl))) (notFace_of_selects (args := #[]) (mvT hZ (hw _ (List.mem_of_getElem? (i := 79) rfl)))) (mvT hZ (hw _ (List.mem_of_getElem? (i := 79) rfl))) (mvT hZ (hw _ (List.mem_of_getElem? (i := 78) rfl))) (by decide) (backOf (W := 0) (rm_8b l Z a0 hw [] b95 eb fa96 kf96 (((6 : Int32), .long (own_red ea)) :: (((4 : Int32), .long x2) :: (((23 : Int32), .long (-2147483648 : Int64)) :: ((14 : Int32), .long x2) :: ((21 : Int32), .long x3) :: (((9 : Int32), .long (-2147483648 : Int64)) :: ((0 : Int32), .long x1) :: ((7 : Int32), .long x0) :: [])))) (own_red eb) T100.heap n0 Z100 ((Ff98q.keep K99q (ninS hne nin0)).keep K100q (ninS hne nin0)) Ha100q g_fa96 hne rfl) hZ (hw _ (List.mem_of_getElem? (i := 80) rfl)) (hw _ (List.mem_of_getElem? (i := 39) rfl)) (by decide) (by decide)) q101a q101c (g := (mkF m 92 #[.val (.long x0), .second, .val (.long x1), .second, .val (.long x2), .second, .val (.long x3), .second, .val (.int x4), .val (.int ea), .val (.int eb), .val (.ref b93), .val (.ref b95), .val (.int (0 : Int32)), .val (.int (14 : Int32)), .unset, .unset, .unset] [(.int eb), (.int (14 : Int32)), (.ref b95)])) rfl (by rw [hml]; rfl) (Steps.refl _) (argsL := [(.int (14 : Int32)), (.int eb)]) (rest := []) (lenOf pd__IZ_V rfl) rfl (by show 2 * 0 + _ ≤ _; exact Nat.le_of_eq rfl) (hb hby at_92) (fun _ _ => ⟨rfl, rfl, (by decide : 8 + 0 ≤ _), (by decide : 585 + 0 ≤ _)⟩)
  dsimp only [Pt.U, Pt.locs, Pt.cells, Pt.slots] at X101 l101 y101 z101 st101 hQ101
  subst l101 y101 z101
  obtain ⟨rfl, N101q, K101q, Ha101q⟩ := hQ101
  have N101 := Fr.app N100 N101q
  have K101 : Keep h0 T101.heap [] := K100.trans K101q (allS (P := fun x => x ∈ [] ∨ h0.size ≤ x) (Or.inr sz_fa96) all0)
  have Z101 : n0 ≤ T101.heap.size := (Nat.le_trans Z100 K101q.1)
  have ks101 : _ ≤ T101.heap.size := (Nat.le_trans ks100 K101q.1)
  obtain ⟨cq102, kq102, q102a, q102b, q102c⟩ := isOf hZ rfl (((E98q.keep K99q).keep K100q).keep K101q)
  obtain ⟨_, _, ⟨T102, L102, k102, n102⟩, -, X102, ⟨Lc102, hQ102, l102, y102, z102⟩, st102⟩ := X101.virtualBack hx (y := (⟨"com/example/matchwright/matchwright/book/LevelPool", "isRed", "(I)Z"⟩ : MethodName)) (z := (⟨"com/example/matchwright/matchwright/book/LevelPool", "isRed", "(I)Z"⟩ : MethodName)) hown (mvT hZ (hw _ (List.mem_of_getElem? (i := 82) rfl))) (mvT hZ (hw _ (List.mem_of_getElem? (i := 83) rfl))) (notFace_of_selects (args := #[]) (mvT hZ (hw _ (List.mem_of_getElem? (i := 85) rfl)))) (mvT hZ (hw _ (List.mem_of_getElem? (i := 85) rfl))) (mvT hZ (hw _ (List.mem_of_getElem? (i := 84) rfl))) (by decide) (backOf (W := 0) (rm_9m l Z a0 hw [] b95 T101.heap n0 Z101 ) hZ (hw _ (List.mem_of_getElem? (i := 86) rfl)) (hw _ (List.mem_of_getElem? (i := 39) rfl)) (by decide) (by decide)) q102a q102c (g := (mkF m 99 #[.val (.long x0), .second, .val (.long x1), .second, .val (.long x2), .second, .val (.long x3), .second, .val (.int x4), .val (.int ea), .val (.int eb), .val (.ref b93), .val (.ref b95), .val (.int (0 : Int32)), .val (.int (14 : Int32)), .unset, .unset, .unset] [(.int (-2147483648 : Int32)), (.ref b95)])) rfl (by rw [hml]; rfl) (Steps.refl _) (argsL := [(.int (-2147483648 : Int32))]) (rest := []) (lenOf pd__I_Z rfl) rfl (by show 2 * 0 + _ ≤ _; exact Nat.le_of_eq rfl) (hb hby at_99) (fun _ _ => ⟨rfl, rfl, (by decide : 8 + 0 ≤ _), (by decide : 585 + 0 ≤ _)⟩)
  dsimp only [Pt.U, Pt.locs, Pt.cells, Pt.slots] at X102 l102 y102 z102 st102 hQ102
  subst l102 y102 z102
  obtain ⟨rfl, N102q, e102q⟩ := hQ102
  have N102 := Fr.app N101 N102q
  obtain ⟨cq103, kq103, q103a, q103b, q103c⟩ := isOf hZ e102q (((E98q.keep K99q).keep K100q).keep K101q)
  obtain ⟨_, _, ⟨T103, L103, k103, n103⟩, -, X103, ⟨Lc103, hQ103, l103, y103, z103⟩, st103⟩ := X102.virtualBack hx (y := (⟨"com/example/matchwright/matchwright/book/LevelPool", "isRed", "(I)Z"⟩ : MethodName)) (z := (⟨"com/example/matchwright/matchwright/book/LevelPool", "isRed", "(I)Z"⟩ : MethodName)) hown (mvT hZ (hw _ (List.mem_of_getElem? (i := 82) rfl))) (mvT hZ (hw _ (List.mem_of_getElem? (i := 83) rfl))) (notFace_of_selects (args := #[]) (mvT hZ (hw _ (List.mem_of_getElem? (i := 85) rfl)))) (mvT hZ (hw _ (List.mem_of_getElem? (i := 85) rfl))) (mvT hZ (hw _ (List.mem_of_getElem? (i := 84) rfl))) (by decide) (backOf (W := 0) (rm_9a l Z a0 hw [] b95 fa96 kf96 (((20 : Int32), .long (own_red eb)) :: (((6 : Int32), .long (own_red ea)) :: (((4 : Int32), .long x2) :: (((23 : Int32), .long (-2147483648 : Int64)) :: ((14 : Int32), .long x2) :: ((21 : Int32), .long x3) :: (((9 : Int32), .long (-2147483648 : Int64)) :: ((0 : Int32), .long x1) :: ((7 : Int32), .long x0) :: []))))) (own_red ea) ea T101.heap n0 Z101 (((Ff98q.keep K99q (ninS hne nin0)).keep K100q (ninS hne nin0)).keep K101q (ninS hne nin0)) Ha101q g_fa96 hne (getH_miss (by decide) (by decide) (getH_hit (by decide) rfl)) (own_back hea)) hZ (hw _ (List.mem_of_getElem? (i := 86) rfl)) (hw _ (List.mem_of_getElem? (i := 39) rfl)) (by decide) (by decide)) q103a q103c (g := (mkF m 116 #[.val (.long x0), .second, .val (.long x1), .second, .val (.long x2), .second, .val (.long x3), .second, .val (.int x4), .val (.int ea), .val (.int eb), .val (.ref b93), .val (.ref b95), .val (.int (0 : Int32)), .val (.int (14 : Int32)), .val (.int (1 : Int32)), .unset, .unset] [(.int (0 : Int32)), (.ref b95)])) rfl (by rw [hml]; rfl) (Steps.refl _) (argsL := [(.int (0 : Int32))]) (rest := []) (lenOf pd__I_Z rfl) rfl (by show 2 * 0 + _ ≤ _; exact Nat.le_of_eq rfl) (hb hby at_116) (fun _ _ => ⟨rfl, e102q, (by decide : 8 + 0 ≤ _), (by decide : 585 + 0 ≤ _)⟩)
  dsimp only [Pt.U, Pt.locs, Pt.cells, Pt.slots] at X103 l103 y103 z103 st103 hQ103
  subst l103 y103 z103
  obtain ⟨rfl, N103q, e103q⟩ := hQ103
  have N103 := Fr.app N102 N103q
  obtain ⟨cq104, kq104, q104a, q104b, q104c⟩ := isOf hZ e103q (((E98q.keep K99q).keep K100q).keep K101q)
  obtain ⟨_, _, ⟨T104, L104, k104, n104⟩, -, X104, ⟨Lc104, hQ104, l104, y104, z104⟩, st104⟩ := X103.virtualBack hx (y := (⟨"com/example/matchwright/matchwright/book/LevelPool", "isRed", "(I)Z"⟩ : MethodName)) (z := (⟨"com/example/matchwright/matchwright/book/LevelPool", "isRed", "(I)Z"⟩ : MethodName)) hown (mvT hZ (hw _ (List.mem_of_getElem? (i := 82) rfl))) (mvT hZ (hw _ (List.mem_of_getElem? (i := 83) rfl))) (notFace_of_selects (args := #[]) (mvT hZ (hw _ (List.mem_of_getElem? (i := 85) rfl)))) (mvT hZ (hw _ (List.mem_of_getElem? (i := 85) rfl))) (mvT hZ (hw _ (List.mem_of_getElem? (i := 84) rfl))) (by decide) (backOf (W := 0) (rm_9b l Z a0 hw [] b95 fa96 kf96 (((20 : Int32), .long (own_red eb)) :: (((6 : Int32), .long (own_red ea)) :: (((4 : Int32), .long x2) :: (((23 : Int32), .long (-2147483648 : Int64)) :: ((14 : Int32), .long x2) :: ((21 : Int32), .long x3) :: (((9 : Int32), .long (-2147483648 : Int64)) :: ((0 : Int32), .long x1) :: ((7 : Int32), .long x0) :: []))))) (own_red eb) eb T101.heap n0 Z101 (((Ff98q.keep K99q (ninS hne nin0)).keep K100q (ninS hne nin0)).keep K101q (ninS hne nin0)) Ha101q g_fa96 hne (getH_hit (by decide) rfl) (own_back heb)) hZ (hw _ (List.mem_of_getElem? (i := 86) rfl)) (hw _ (List.mem_of_getElem? (i := 39) rfl)) (by decide) (by decide)) q104a q104c (g := (mkF m 135 #[.val (.long x0), .second, .val (.long x1), .second, .val (.long x2), .second, .val (.long x3), .second, .val (.int x4), .val (.int ea), .val (.int eb), .val (.ref b93), .val (.ref b95), .val (.int (0 : Int32)), .val (.int (14 : Int32)), .val (.int (1 : Int32)), .val (.int (1 : Int32)), .unset] [(.int (14 : Int32)), (.ref b95)])) rfl (by rw [hml]; rfl) (Steps.refl _) (argsL := [(.int (14 : Int32))]) (rest := []) (lenOf pd__I_Z rfl) rfl (by show 2 * 0 + _ ≤ _; exact Nat.le_of_eq rfl) (hb hby at_135) (fun _ _ => ⟨rfl, e103q, (by decide : 8 + 0 ≤ _), (by decide : 585 + 0 ≤ _)⟩)
  dsimp only [Pt.U, Pt.locs, Pt.cells, Pt.slots] at X104 l104 y104 z104 st104 hQ104
  subst l104 y104 z104
  obtain ⟨rfl, N104q, e104q⟩ := hQ104
  have N104 := Fr.app N103 N104q
  obtain ⟨fs, hr, hrun, hended, hRE⟩ := X104.leaveW hS96 (show _ ≤ T104.heap.size by rw [e104q]; exact ks101) (v := some (.int (1 : Int32))) (fun h => by rw [Bd.returns] at h; cases h)
  refine ⟨_, _, pw92 _ ?_, hrun, hended, _, _, rfl, ?_, hRE.1, hRE.2.1, hRE.2.2.1, hRE.2.2.2.mono (by decide) (by decide)⟩
  · skip
    refine XS.istore X0.here hx rfl (hb hby at_26) rfl (l' := #[.val (.long x0), .second, .val (.long x1), .second, .val (.long x2), .second, .val (.long x3), .second, .val (.int x4), .val (.int ea), .val (.int eb), .unset, .unset, .unset, .unset, .unset, .unset, .unset]) rfl ?_
    show Steps p.tables e below (s₁.setTop (mkF m 28 #[.val (.long x0), .second, .val (.long x1), .second, .val (.long x2), .second, .val (.long x3), .second, .val (.int x4), .val (.int ea), .val (.int eb), .unset, .unset, .unset, .unset, .unset, .unset, .unset] [])) _
    refine st93 _ ?_
    show Steps p.tables e below (T93.setTop (mkF m 31 #[.val (.long x0), .second, .val (.long x1), .second, .val (.long x2), .second, .val (.long x3), .second, .val (.int x4), .val (.int ea), .val (.int eb), .unset, .unset, .unset, .unset, .unset, .unset, .unset] [(.ref b93)])) _
    refine XS.dup X93.here hx rfl (hb hby at_31) rfl rfl ?_
    show Steps p.tables e below (T93.setTop (mkF m 32 #[.val (.long x0), .second, .val (.long x1), .second, .val (.long x2), .second, .val (.long x3), .second, .val (.int x4), .val (.int ea), .val (.int eb), .unset, .unset, .unset, .unset, .unset, .unset, .unset] [(.ref b93), (.ref b93)])) _
    refine st94.trans ?_
    show Steps p.tables e below (T94.setTop (mkF m 35 #[.val (.long x0), .second, .val (.long x1), .second, .val (.long x2), .second, .val (.long x3), .second, .val (.int x4), .val (.int ea), .val (.int eb), .unset, .unset, .unset, .unset, .unset, .unset, .unset] [(.ref b93)])) _
    refine XS.astore X94.here hx rfl (hb hby at_35) rfl rfl (l' := #[.val (.long x0), .second, .val (.long x1), .second, .val (.long x2), .second, .val (.long x3), .second, .val (.int x4), .val (.int ea), .val (.int eb), .val (.ref b93), .unset, .unset, .unset, .unset, .unset, .unset]) rfl ?_
    show Steps p.tables e below (T94.setTop (mkF m 37 #[.val (.long x0), .second, .val (.long x1), .second, .val (.long x2), .second, .val (.long x3), .second, .val (.int x4), .val (.int ea), .val (.int eb), .val (.ref b93), .unset, .unset, .unset, .unset, .unset, .unset] [])) _
    refine st95 _ ?_
    show Steps p.tables e below (T95.setTop (mkF m 40 #[.val (.long x0), .second, .val (.long x1), .second, .val (.long x2), .second, .val (.long x3), .second, .val (.int x4), .val (.int ea), .val (.int eb), .val (.ref b93), .unset, .unset, .unset, .unset, .unset, .unset] [(.ref b95)])) _
    refine XS.dup X95.here hx rfl (hb hby at_40) rfl rfl ?_
    show Steps p.tables e below (T95.setTop (mkF m 41 #[.val (.long x0), .second, .val (.long x1), .second, .val (.long x2), .second, .val (.long x3), .second, .val (.int x4), .val (.int ea), .val (.int eb), .val (.ref b93), .unset, .unset, .unset, .unset, .unset, .unset] [(.ref b95), (.ref b95)])) _
    refine XS.aload X95.here hx rfl (hb hby at_41) rfl rfl ?_
    show Steps p.tables e below (T95.setTop (mkF m 43 #[.val (.long x0), .second, .val (.long x1), .second, .val (.long x2), .second, .val (.long x3), .second, .val (.int x4), .val (.int ea), .val (.int eb), .val (.ref b93), .unset, .unset, .unset, .unset, .unset, .unset] [(.ref b93), (.ref b95), (.ref b95)])) _
    refine st96.trans ?_
    show Steps p.tables e below (T96.setTop (mkF m 46 #[.val (.long x0), .second, .val (.long x1), .second, .val (.long x2), .second, .val (.long x3), .second, .val (.int x4), .val (.int ea), .val (.int eb), .val (.ref b93), .unset, .unset, .unset, .unset, .unset, .unset] [(.ref b95)])) _
    refine XS.astore X96.here hx rfl (hb hby at_46) rfl rfl (l' := #[.val (.long x0), .second, .val (.long x1), .second, .val (.long x2), .second, .val (.long x3), .second, .val (.int x4), .val (.int ea), .val (.int eb), .val (.ref b93), .val (.ref b95), .unset, .unset, .unset, .unset, .unset]) rfl ?_
    show Steps p.tables e below (T96.setTop (mkF m 48 #[.val (.long x0), .second, .val (.long x1), .second, .val (.long x2), .second, .val (.long x3), .second, .val (.int x4), .val (.int ea), .val (.int eb), .val (.ref b93), .val (.ref b95), .unset, .unset, .unset, .unset, .unset] [])) _
    refine XS.aload X96.here hx rfl (hb hby at_48) rfl rfl ?_
    show Steps p.tables e below (T96.setTop (mkF m 50 #[.val (.long x0), .second, .val (.long x1), .second, .val (.long x2), .second, .val (.long x3), .second, .val (.int x4), .val (.int ea), .val (.int eb), .val (.ref b93), .val (.ref b95), .unset, .unset, .unset, .unset, .unset] [(.ref b95)])) _
    refine XS.lloadN X96.here hx rfl (hb hby at_50) rfl ?_
    show Steps p.tables e below (T96.setTop (mkF m 51 #[.val (.long x0), .second, .val (.long x1), .second, .val (.long x2), .second, .val (.long x3), .second, .val (.int x4), .val (.int ea), .val (.int eb), .val (.ref b93), .val (.ref b95), .unset, .unset, .unset, .unset, .unset] [(.long x0), (.ref b95)])) _
    refine XS.lloadN X96.here hx rfl (hb hby at_51) rfl ?_
    show Steps p.tables e below (T96.setTop (mkF m 52 #[.val (.long x0), .second, .val (.long x1), .second, .val (.long x2), .second, .val (.long x3), .second, .val (.int x4), .val (.int ea), .val (.int eb), .val (.ref b93), .val (.ref b95), .unset, .unset, .unset, .unset, .unset] [(.long x1), (.long x0), (.ref b95)])) _
    refine st97.trans ?_
    show Steps p.tables e below (T97.setTop (mkF m 55 #[.val (.long x0), .second, .val (.long x1), .second, .val (.long x2), .second, .val (.long x3), .second, .val (.int x4), .val (.int ea), .val (.int eb), .val (.ref b93), .val (.ref b95), .unset, .unset, .unset, .unset, .unset] [(.int (0 : Int32))])) _
    refine XS.istore X97.here hx rfl (hb hby at_55) rfl (l' := #[.val (.long x0), .second, .val (.long x1), .second, .val (.long x2), .second, .val (.long x3), .second, .val (.int x4), .val (.int ea), .val (.int eb), .val (.ref b93), .val (.ref b95), .val (.int (0 : Int32)), .unset, .unset, .unset, .unset]) rfl ?_
    show Steps p.tables e below (T97.setTop (mkF m 57 #[.val (.long x0), .second, .val (.long x1), .second, .val (.long x2), .second, .val (.long x3), .second, .val (.int x4), .val (.int ea), .val (.int eb), .val (.ref b93), .val (.ref b95), .val (.int (0 : Int32)), .unset, .unset, .unset, .unset] [])) _
    refine XS.aload X97.here hx rfl (hb hby at_57) rfl rfl ?_
    show Steps p.tables e below (T97.setTop (mkF m 59 #[.val (.long x0), .second, .val (.long x1), .second, .val (.long x2), .second, .val (.long x3), .second, .val (.int x4), .val (.int ea), .val (.int eb), .val (.ref b93), .val (.ref b95), .val (.int (0 : Int32)), .unset, .unset, .unset, .unset] [(.ref b95)])) _
    refine XS.lload X97.here hx rfl (hb hby at_59) rfl ?_
    show Steps p.tables e below (T97.setTop (mkF m 61 #[.val (.long x0), .second, .val (.long x1), .second, .val (.long x2), .second, .val (.long x3), .second, .val (.int x4), .val (.int ea), .val (.int eb), .val (.ref b93), .val (.ref b95), .val (.int (0 : Int32)), .unset, .unset, .unset, .unset] [(.long x3), (.ref b95)])) _
    refine XS.lload X97.here hx rfl (hb hby at_61) rfl ?_
    show Steps p.tables e below (T97.setTop (mkF m 63 #[.val (.long x0), .second, .val (.long x1), .second, .val (.long x2), .second, .val (.long x3), .second, .val (.int x4), .val (.int ea), .val (.int eb), .val (.ref b93), .val (.ref b95), .val (.int (0 : Int32)), .unset, .unset, .unset, .unset] [(.long x2), (.long x3), (.ref b95)])) _
    refine st98.trans ?_
    show Steps p.tables e below (T98.setTop (mkF m 66 #[.val (.long x0), .second, .val (.long x1), .second, .val (.long x2), .second, .val (.long x3), .second, .val (.int x4), .val (.int ea), .val (.int eb), .val (.ref b93), .val (.ref b95), .val (.int (0 : Int32)), .unset, .unset, .unset, .unset] [(.int (14 : Int32))])) _
    refine XS.istore X98.here hx rfl (hb hby at_66) rfl (l' := #[.val (.long x0), .second, .val (.long x1), .second, .val (.long x2), .second, .val (.long x3), .second, .val (.int x4), .val (.int ea), .val (.int eb), .val (.ref b93), .val (.ref b95), .val (.int (0 : Int32)), .val (.int (14 : Int32)), .unset, .unset, .unset]) rfl ?_
    show Steps p.tables e below (T98.setTop (mkF m 68 #[.val (.long x0), .second, .val (.long x1), .second, .val (.long x2), .second, .val (.long x3), .second, .val (.int x4), .val (.int ea), .val (.int eb), .val (.ref b93), .val (.ref b95), .val (.int (0 : Int32)), .val (.int (14 : Int32)), .unset, .unset, .unset] [])) _
    refine XS.aload X98.here hx rfl (hb hby at_68) rfl rfl ?_
    show Steps p.tables e below (T98.setTop (mkF m 70 #[.val (.long x0), .second, .val (.long x1), .second, .val (.long x2), .second, .val (.long x3), .second, .val (.int x4), .val (.int ea), .val (.int eb), .val (.ref b93), .val (.ref b95), .val (.int (0 : Int32)), .val (.int (14 : Int32)), .unset, .unset, .unset] [(.ref b95)])) _
    refine XS.iload X98.here hx rfl (hb hby at_70) rfl ?_
    show Steps p.tables e below (T98.setTop (mkF m 72 #[.val (.long x0), .second, .val (.long x1), .second, .val (.long x2), .second, .val (.long x3), .second, .val (.int x4), .val (.int ea), .val (.int eb), .val (.ref b93), .val (.ref b95), .val (.int (0 : Int32)), .val (.int (14 : Int32)), .unset, .unset, .unset] [(.int (0 : Int32)), (.ref b95)])) _
    refine XS.lload X98.here hx rfl (hb hby at_72) rfl ?_
    show Steps p.tables e below (T98.setTop (mkF m 74 #[.val (.long x0), .second, .val (.long x1), .second, .val (.long x2), .second, .val (.long x3), .second, .val (.int x4), .val (.int ea), .val (.int eb), .val (.ref b93), .val (.ref b95), .val (.int (0 : Int32)), .val (.int (14 : Int32)), .unset, .unset, .unset] [(.long x2), (.int (0 : Int32)), (.ref b95)])) _
    refine st99.trans ?_
    show Steps p.tables e below (T99.setTop (mkF m 77 #[.val (.long x0), .second, .val (.long x1), .second, .val (.long x2), .second, .val (.long x3), .second, .val (.int x4), .val (.int ea), .val (.int eb), .val (.ref b93), .val (.ref b95), .val (.int (0 : Int32)), .val (.int (14 : Int32)), .unset, .unset, .unset] [])) _
    refine XS.aload X99.here hx rfl (hb hby at_77) rfl rfl ?_
    show Steps p.tables e below (T99.setTop (mkF m 79 #[.val (.long x0), .second, .val (.long x1), .second, .val (.long x2), .second, .val (.long x3), .second, .val (.int x4), .val (.int ea), .val (.int eb), .val (.ref b93), .val (.ref b95), .val (.int (0 : Int32)), .val (.int (14 : Int32)), .unset, .unset, .unset] [(.ref b95)])) _
    refine XS.iload X99.here hx rfl (hb hby at_79) rfl ?_
    show Steps p.tables e below (T99.setTop (mkF m 81 #[.val (.long x0), .second, .val (.long x1), .second, .val (.long x2), .second, .val (.long x3), .second, .val (.int x4), .val (.int ea), .val (.int eb), .val (.ref b93), .val (.ref b95), .val (.int (0 : Int32)), .val (.int (14 : Int32)), .unset, .unset, .unset] [(.int (0 : Int32)), (.ref b95)])) _
    refine XS.iload X99.here hx rfl (hb hby at_81) rfl ?_
    show Steps p.tables e below (T99.setTop (mkF m 83 #[.val (.long x0), .second, .val (.long x1), .second, .val (.long x2), .second, .val (.long x3), .second, .val (.int x4), .val (.int ea), .val (.int eb), .val (.ref b93), .val (.ref b95), .val (.int (0 : Int32)), .val (.int (14 : Int32)), .unset, .unset, .unset] [(.int ea), (.int (0 : Int32)), (.ref b95)])) _
    refine st100.trans ?_
    show Steps p.tables e below (T100.setTop (mkF m 86 #[.val (.long x0), .second, .val (.long x1), .second, .val (.long x2), .second, .val (.long x3), .second, .val (.int x4), .val (.int ea), .val (.int eb), .val (.ref b93), .val (.ref b95), .val (.int (0 : Int32)), .val (.int (14 : Int32)), .unset, .unset, .unset] [])) _
    refine XS.aload X100.here hx rfl (hb hby at_86) rfl rfl ?_
    show Steps p.tables e below (T100.setTop (mkF m 88 #[.val (.long x0), .second, .val (.long x1), .second, .val (.long x2), .second, .val (.long x3), .second, .val (.int x4), .val (.int ea), .val (.int eb), .val (.ref b93), .val (.ref b95), .val (.int (0 : Int32)), .val (.int (14 : Int32)), .unset, .unset, .unset] [(.ref b95)])) _
    refine XS.iload X100.here hx rfl (hb hby at_88) rfl ?_
    show Steps p.tables e below (T100.setTop (mkF m 90 #[.val (.long x0), .second, .val (.long x1), .second, .val (.long x2), .second, .val (.long x3), .second, .val (.int x4), .val (.int ea), .val (.int eb), .val (.ref b93), .val (.ref b95), .val (.int (0 : Int32)), .val (.int (14 : Int32)), .unset, .unset, .unset] [(.int (14 : Int32)), (.ref b95)])) _
    refine XS.iload X100.here hx rfl (hb hby at_90) rfl ?_
    show Steps p.tables e below (T100.setTop (mkF m 92 #[.val (.long x0), .second, .val (.long x1), .second, .val (.long x2), .second, .val (.long x3), .second, .val (.int x4), .val (.int ea), .val (.int eb), .val (.ref b93), .val (.ref b95), .val (.int (0 : Int32)), .val (.int (14 : Int32)), .unset, .unset, .unset] [(.int eb), (.int (14 : Int32)), (.ref b95)])) _
    refine st101.trans ?_
    show Steps p.tables e below (T101.setTop (mkF m 95 #[.val (.long x0), .second, .val (.long x1), .second, .val (.long x2), .second, .val (.long x3), .second, .val (.int x4), .val (.int ea), .val (.int eb), .val (.ref b93), .val (.ref b95), .val (.int (0 : Int32)), .val (.int (14 : Int32)), .unset, .unset, .unset] [])) _
    refine XS.aload X101.here hx rfl (hb hby at_95) rfl rfl ?_
    show Steps p.tables e below (T101.setTop (mkF m 97 #[.val (.long x0), .second, .val (.long x1), .second, .val (.long x2), .second, .val (.long x3), .second, .val (.int x4), .val (.int ea), .val (.int eb), .val (.ref b93), .val (.ref b95), .val (.int (0 : Int32)), .val (.int (14 : Int32)), .unset, .unset, .unset] [(.ref b95)])) _
    refine X101.ldcInt hx hown (mvT hZ (hw _ (List.mem_of_getElem? (i := 81) rfl))) (g := (mkF m 97 #[.val (.long x0), .second, .val (.long x1), .second, .val (.long x2), .second, .val (.long x3), .second, .val (.int x4), .val (.int ea), .val (.int eb), .val (.ref b93), .val (.ref b95), .val (.int (0 : Int32)), .val (.int (14 : Int32)), .unset, .unset, .unset] [(.ref b95)])) rfl (hb hby at_97) _ ?_
    show Steps p.tables e below (T101.setTop (mkF m 99 #[.val (.long x0), .second, .val (.long x1), .second, .val (.long x2), .second, .val (.long x3), .second, .val (.int x4), .val (.int ea), .val (.int eb), .val (.ref b93), .val (.ref b95), .val (.int (0 : Int32)), .val (.int (14 : Int32)), .unset, .unset, .unset] [(.int (-2147483648 : Int32)), (.ref b95)])) _
    refine st102.trans ?_
    show Steps p.tables e below (T102.setTop (mkF m 102 #[.val (.long x0), .second, .val (.long x1), .second, .val (.long x2), .second, .val (.long x3), .second, .val (.int x4), .val (.int ea), .val (.int eb), .val (.ref b93), .val (.ref b95), .val (.int (0 : Int32)), .val (.int (14 : Int32)), .unset, .unset, .unset] [(.int (0 : Int32))])) _
    refine XS.ifNo X102.here hx rfl (hb hby at_102) rfl ((if0 _ _).trans (teq (by decide : (0 : Int32) = (0 : Int32))).2) ?_
    show Steps p.tables e below (T102.setTop (mkF m 105 #[.val (.long x0), .second, .val (.long x1), .second, .val (.long x2), .second, .val (.long x3), .second, .val (.int x4), .val (.int ea), .val (.int eb), .val (.ref b93), .val (.ref b95), .val (.int (0 : Int32)), .val (.int (14 : Int32)), .unset, .unset, .unset] [])) _
    refine XS.iconst X102.here hx rfl (hb hby at_105) ?_
    show Steps p.tables e below (T102.setTop (mkF m 106 #[.val (.long x0), .second, .val (.long x1), .second, .val (.long x2), .second, .val (.long x3), .second, .val (.int x4), .val (.int ea), .val (.int eb), .val (.ref b93), .val (.ref b95), .val (.int (0 : Int32)), .val (.int (14 : Int32)), .unset, .unset, .unset] [(.int (1 : Int32))])) _
    refine XS.goto X102.here hx rfl (pc0 := 106) (pc' := 110) rfl (hb hby at_106) (by decide) (by decide) ?_
    show Steps p.tables e below (T102.setTop (mkF m 110 #[.val (.long x0), .second, .val (.long x1), .second, .val (.long x2), .second, .val (.long x3), .second, .val (.int x4), .val (.int ea), .val (.int eb), .val (.ref b93), .val (.ref b95), .val (.int (0 : Int32)), .val (.int (14 : Int32)), .unset, .unset, .unset] [(.int (1 : Int32))])) _
    refine XS.istore X102.here hx rfl (hb hby at_110) rfl (l' := #[.val (.long x0), .second, .val (.long x1), .second, .val (.long x2), .second, .val (.long x3), .second, .val (.int x4), .val (.int ea), .val (.int eb), .val (.ref b93), .val (.ref b95), .val (.int (0 : Int32)), .val (.int (14 : Int32)), .val (.int (1 : Int32)), .unset, .unset]) rfl ?_
    show Steps p.tables e below (T102.setTop (mkF m 112 #[.val (.long x0), .second, .val (.long x1), .second, .val (.long x2), .second, .val (.long x3), .second, .val (.int x4), .val (.int ea), .val (.int eb), .val (.ref b93), .val (.ref b95), .val (.int (0 : Int32)), .val (.int (14 : Int32)), .val (.int (1 : Int32)), .unset, .unset] [])) _
    refine XS.aload X102.here hx rfl (hb hby at_112) rfl rfl ?_
    show Steps p.tables e below (T102.setTop (mkF m 114 #[.val (.long x0), .second, .val (.long x1), .second, .val (.long x2), .second, .val (.long x3), .second, .val (.int x4), .val (.int ea), .val (.int eb), .val (.ref b93), .val (.ref b95), .val (.int (0 : Int32)), .val (.int (14 : Int32)), .val (.int (1 : Int32)), .unset, .unset] [(.ref b95)])) _
    refine XS.iload X102.here hx rfl (hb hby at_114) rfl ?_
    show Steps p.tables e below (T102.setTop (mkF m 116 #[.val (.long x0), .second, .val (.long x1), .second, .val (.long x2), .second, .val (.long x3), .second, .val (.int x4), .val (.int ea), .val (.int eb), .val (.ref b93), .val (.ref b95), .val (.int (0 : Int32)), .val (.int (14 : Int32)), .val (.int (1 : Int32)), .unset, .unset] [(.int (0 : Int32)), (.ref b95)])) _
    refine st103.trans ?_
    show Steps p.tables e below (T103.setTop (mkF m 119 #[.val (.long x0), .second, .val (.long x1), .second, .val (.long x2), .second, .val (.long x3), .second, .val (.int x4), .val (.int ea), .val (.int eb), .val (.ref b93), .val (.ref b95), .val (.int (0 : Int32)), .val (.int (14 : Int32)), .val (.int (1 : Int32)), .unset, .unset] [(.int ea)])) _
    refine XS.iload X103.here hx rfl (hb hby at_119) rfl ?_
    show Steps p.tables e below (T103.setTop (mkF m 121 #[.val (.long x0), .second, .val (.long x1), .second, .val (.long x2), .second, .val (.long x3), .second, .val (.int x4), .val (.int ea), .val (.int eb), .val (.ref b93), .val (.ref b95), .val (.int (0 : Int32)), .val (.int (14 : Int32)), .val (.int (1 : Int32)), .unset, .unset] [(.int ea), (.int ea)])) _
    refine XS.icmpNo X103.here hx rfl (hb hby at_121) rfl (teq (rfl : ea = ea)).2 ?_
    show Steps p.tables e below (T103.setTop (mkF m 124 #[.val (.long x0), .second, .val (.long x1), .second, .val (.long x2), .second, .val (.long x3), .second, .val (.int x4), .val (.int ea), .val (.int eb), .val (.ref b93), .val (.ref b95), .val (.int (0 : Int32)), .val (.int (14 : Int32)), .val (.int (1 : Int32)), .unset, .unset] [])) _
    refine XS.iconst X103.here hx rfl (hb hby at_124) ?_
    show Steps p.tables e below (T103.setTop (mkF m 125 #[.val (.long x0), .second, .val (.long x1), .second, .val (.long x2), .second, .val (.long x3), .second, .val (.int x4), .val (.int ea), .val (.int eb), .val (.ref b93), .val (.ref b95), .val (.int (0 : Int32)), .val (.int (14 : Int32)), .val (.int (1 : Int32)), .unset, .unset] [(.int (1 : Int32))])) _
    refine XS.goto X103.here hx rfl (pc0 := 125) (pc' := 129) rfl (hb hby at_125) (by decide) (by decide) ?_
    show Steps p.tables e below (T103.setTop (mkF m 129 #[.val (.long x0), .second, .val (.long x1), .second, .val (.long x2), .second, .val (.long x3), .second, .val (.int x4), .val (.int ea), .val (.int eb), .val (.ref b93), .val (.ref b95), .val (.int (0 : Int32)), .val (.int (14 : Int32)), .val (.int (1 : Int32)), .unset, .unset] [(.int (1 : Int32))])) _
    refine XS.istore X103.here hx rfl (hb hby at_129) rfl (l' := #[.val (.long x0), .second, .val (.long x1), .second, .val (.long x2), .second, .val (.long x3), .second, .val (.int x4), .val (.int ea), .val (.int eb), .val (.ref b93), .val (.ref b95), .val (.int (0 : Int32)), .val (.int (14 : Int32)), .val (.int (1 : Int32)), .val (.int (1 : Int32)), .unset]) rfl ?_
    show Steps p.tables e below (T103.setTop (mkF m 131 #[.val (.long x0), .second, .val (.long x1), .second, .val (.long x2), .second, .val (.long x3), .second, .val (.int x4), .val (.int ea), .val (.int eb), .val (.ref b93), .val (.ref b95), .val (.int (0 : Int32)), .val (.int (14 : Int32)), .val (.int (1 : Int32)), .val (.int (1 : Int32)), .unset] [])) _
    refine XS.aload X103.here hx rfl (hb hby at_131) rfl rfl ?_
    show Steps p.tables e below (T103.setTop (mkF m 133 #[.val (.long x0), .second, .val (.long x1), .second, .val (.long x2), .second, .val (.long x3), .second, .val (.int x4), .val (.int ea), .val (.int eb), .val (.ref b93), .val (.ref b95), .val (.int (0 : Int32)), .val (.int (14 : Int32)), .val (.int (1 : Int32)), .val (.int (1 : Int32)), .unset] [(.ref b95)])) _
    refine XS.iload X103.here hx rfl (hb hby at_133) rfl ?_
    show Steps p.tables e below (T103.setTop (mkF m 135 #[.val (.long x0), .second, .val (.long x1), .second, .val (.long x2), .second, .val (.long x3), .second, .val (.int x4), .val (.int ea), .val (.int eb), .val (.ref b93), .val (.ref b95), .val (.int (0 : Int32)), .val (.int (14 : Int32)), .val (.int (1 : Int32)), .val (.int (1 : Int32)), .unset] [(.int (14 : Int32)), (.ref b95)])) _
    refine st104.trans ?_
    show Steps p.tables e below (T104.setTop (mkF m 138 #[.val (.long x0), .second, .val (.long x1), .second, .val (.long x2), .second, .val (.long x3), .second, .val (.int x4), .val (.int ea), .val (.int eb), .val (.ref b93), .val (.ref b95), .val (.int (0 : Int32)), .val (.int (14 : Int32)), .val (.int (1 : Int32)), .val (.int (1 : Int32)), .unset] [(.int eb)])) _
    refine XS.iload X104.here hx rfl (hb hby at_138) rfl ?_
    show Steps p.tables e below (T104.setTop (mkF m 140 #[.val (.long x0), .second, .val (.long x1), .second, .val (.long x2), .second, .val (.long x3), .second, .val (.int x4), .val (.int ea), .val (.int eb), .val (.ref b93), .val (.ref b95), .val (.int (0 : Int32)), .val (.int (14 : Int32)), .val (.int (1 : Int32)), .val (.int (1 : Int32)), .unset] [(.int eb), (.int eb)])) _
    refine XS.icmpNo X104.here hx rfl (hb hby at_140) rfl (teq (rfl : eb = eb)).2 ?_
    show Steps p.tables e below (T104.setTop (mkF m 143 #[.val (.long x0), .second, .val (.long x1), .second, .val (.long x2), .second, .val (.long x3), .second, .val (.int x4), .val (.int ea), .val (.int eb), .val (.ref b93), .val (.ref b95), .val (.int (0 : Int32)), .val (.int (14 : Int32)), .val (.int (1 : Int32)), .val (.int (1 : Int32)), .unset] [])) _
    refine XS.iconst X104.here hx rfl (hb hby at_143) ?_
    show Steps p.tables e below (T104.setTop (mkF m 144 #[.val (.long x0), .second, .val (.long x1), .second, .val (.long x2), .second, .val (.long x3), .second, .val (.int x4), .val (.int ea), .val (.int eb), .val (.ref b93), .val (.ref b95), .val (.int (0 : Int32)), .val (.int (14 : Int32)), .val (.int (1 : Int32)), .val (.int (1 : Int32)), .unset] [(.int (1 : Int32))])) _
    refine XS.goto X104.here hx rfl (pc0 := 144) (pc' := 148) rfl (hb hby at_144) (by decide) (by decide) ?_
    show Steps p.tables e below (T104.setTop (mkF m 148 #[.val (.long x0), .second, .val (.long x1), .second, .val (.long x2), .second, .val (.long x3), .second, .val (.int x4), .val (.int ea), .val (.int eb), .val (.ref b93), .val (.ref b95), .val (.int (0 : Int32)), .val (.int (14 : Int32)), .val (.int (1 : Int32)), .val (.int (1 : Int32)), .unset] [(.int (1 : Int32))])) _
    refine XS.istore X104.here hx rfl (hb hby at_148) rfl (l' := #[.val (.long x0), .second, .val (.long x1), .second, .val (.long x2), .second, .val (.long x3), .second, .val (.int x4), .val (.int ea), .val (.int eb), .val (.ref b93), .val (.ref b95), .val (.int (0 : Int32)), .val (.int (14 : Int32)), .val (.int (1 : Int32)), .val (.int (1 : Int32)), .val (.int (1 : Int32))]) rfl ?_
    show Steps p.tables e below (T104.setTop (mkF m 150 #[.val (.long x0), .second, .val (.long x1), .second, .val (.long x2), .second, .val (.long x3), .second, .val (.int x4), .val (.int ea), .val (.int eb), .val (.ref b93), .val (.ref b95), .val (.int (0 : Int32)), .val (.int (14 : Int32)), .val (.int (1 : Int32)), .val (.int (1 : Int32)), .val (.int (1 : Int32))] [])) _
    refine XS.iload X104.here hx rfl (hb hby at_150) rfl ?_
    show Steps p.tables e below (T104.setTop (mkF m 152 #[.val (.long x0), .second, .val (.long x1), .second, .val (.long x2), .second, .val (.long x3), .second, .val (.int x4), .val (.int ea), .val (.int eb), .val (.ref b93), .val (.ref b95), .val (.int (0 : Int32)), .val (.int (14 : Int32)), .val (.int (1 : Int32)), .val (.int (1 : Int32)), .val (.int (1 : Int32))] [(.int (1 : Int32))])) _
    refine XS.ifNo X104.here hx rfl (hb hby at_152) rfl ((if0 _ _).trans (feq (by decide : ¬ ((1 : Int32) = (0 : Int32)))).1) ?_
    show Steps p.tables e below (T104.setTop (mkF m 155 #[.val (.long x0), .second, .val (.long x1), .second, .val (.long x2), .second, .val (.long x3), .second, .val (.int x4), .val (.int ea), .val (.int eb), .val (.ref b93), .val (.ref b95), .val (.int (0 : Int32)), .val (.int (14 : Int32)), .val (.int (1 : Int32)), .val (.int (1 : Int32)), .val (.int (1 : Int32))] [])) _
    refine XS.iload X104.here hx rfl (hb hby at_155) rfl ?_
    show Steps p.tables e below (T104.setTop (mkF m 157 #[.val (.long x0), .second, .val (.long x1), .second, .val (.long x2), .second, .val (.long x3), .second, .val (.int x4), .val (.int ea), .val (.int eb), .val (.ref b93), .val (.ref b95), .val (.int (0 : Int32)), .val (.int (14 : Int32)), .val (.int (1 : Int32)), .val (.int (1 : Int32)), .val (.int (1 : Int32))] [(.int (1 : Int32))])) _
    refine XS.ifNo X104.here hx rfl (hb hby at_157) rfl ((if0 _ _).trans (feq (by decide : ¬ ((1 : Int32) = (0 : Int32)))).1) ?_
    show Steps p.tables e below (T104.setTop (mkF m 160 #[.val (.long x0), .second, .val (.long x1), .second, .val (.long x2), .second, .val (.long x3), .second, .val (.int x4), .val (.int ea), .val (.int eb), .val (.ref b93), .val (.ref b95), .val (.int (0 : Int32)), .val (.int (14 : Int32)), .val (.int (1 : Int32)), .val (.int (1 : Int32)), .val (.int (1 : Int32))] [])) _
    refine XS.iload X104.here hx rfl (hb hby at_160) rfl ?_
    show Steps p.tables e below (T104.setTop (mkF m 162 #[.val (.long x0), .second, .val (.long x1), .second, .val (.long x2), .second, .val (.long x3), .second, .val (.int x4), .val (.int ea), .val (.int eb), .val (.ref b93), .val (.ref b95), .val (.int (0 : Int32)), .val (.int (14 : Int32)), .val (.int (1 : Int32)), .val (.int (1 : Int32)), .val (.int (1 : Int32))] [(.int (1 : Int32))])) _
    refine XS.ifNo X104.here hx rfl (hb hby at_162) rfl ((if0 _ _).trans (feq (by decide : ¬ ((1 : Int32) = (0 : Int32)))).1) ?_
    show Steps p.tables e below (T104.setTop (mkF m 165 #[.val (.long x0), .second, .val (.long x1), .second, .val (.long x2), .second, .val (.long x3), .second, .val (.int x4), .val (.int ea), .val (.int eb), .val (.ref b93), .val (.ref b95), .val (.int (0 : Int32)), .val (.int (14 : Int32)), .val (.int (1 : Int32)), .val (.int (1 : Int32)), .val (.int (1 : Int32))] [])) _
    refine XS.iconst X104.here hx rfl (hb hby at_165) ?_
    show Steps p.tables e below (T104.setTop (mkF m 166 #[.val (.long x0), .second, .val (.long x1), .second, .val (.long x2), .second, .val (.long x3), .second, .val (.int x4), .val (.int ea), .val (.int eb), .val (.ref b93), .val (.ref b95), .val (.int (0 : Int32)), .val (.int (14 : Int32)), .val (.int (1 : Int32)), .val (.int (1 : Int32)), .val (.int (1 : Int32))] [(.int (1 : Int32))])) _
    refine XS.goto X104.here hx rfl (pc0 := 166) (pc' := 170) rfl (hb hby at_166) (by decide) (by decide) ?_
    show Steps p.tables e below (T104.setTop (mkF m 170 #[.val (.long x0), .second, .val (.long x1), .second, .val (.long x2), .second, .val (.long x3), .second, .val (.int x4), .val (.int ea), .val (.int eb), .val (.ref b93), .val (.ref b95), .val (.int (0 : Int32)), .val (.int (14 : Int32)), .val (.int (1 : Int32)), .val (.int (1 : Int32)), .val (.int (1 : Int32))] [(.int (1 : Int32))])) _
    exact retN X104 hx (t := .boolean) Bd.returns (by simp) (hb hby at_170) hr
  · show Q_0 Z x0 x1 x2 x3 x4 ea eb h0 n0 _ T104.heap _
    rw [e104q]
    exact ⟨rfl, N104⟩
set_option maxRecDepth 65536 in
set_option maxHeartbeats 40000000 in
theorem comes_1 {Post : Tables → Env → Array Value → State → Outcome → State → Prop} (hpost : ∀ tb e args s v u, (limb_1_1.after args s (.returned v) u = true ∧ limb_1_2.after args s (.returned v) u = true ∧ True) → ReturnedEndW s (.returned v) u (Jvm.fieldLocs frame_1_writes args s ++ Jvm.arrayLocs frame_1_arrays args s ++ Jvm.staticLocs frame_1_statics s) 24 2944 → Post tb e args s (.returned v) u) :
    ArmFor flags0 classFile x code maxLocals ret World_1 tables_1 room_1 Calls_1 rest_1 Pre_1 Post := by
  intro l hfl _ _ p e ha hc hk s m args below hf hA hF happ hP
  obtain ⟨hcalls, hrest, hpre⟩ := hP
  obtain ⟨-, -, -, hnamed, -, -, -, hat⟩ := (Spec.applies_iff hf).mp happ
  obtain ⟨hg, hn⟩ := and_e (Cond.before_iff.mp (show (Jvm.Cond.and given_1 narrow_1).before args s = true from hpre))
  obtain ⟨g105, g106⟩ := and_e hg
  obtain ⟨g107, g108⟩ := and_e g106
  obtain ⟨g109, g110⟩ := and_e g108
  obtain ⟨g111, g112⟩ := and_e g110
  obtain ⟨g113, g114⟩ := and_e g112
  obtain ⟨w0, w1, w2, w3, w4, rfl⟩ : ∃ w0 w1 w2 w3 w4 : Value, args = #[w0, w1, w2, w3, w4] := by
    have hs : args.size = 5 := by simpa [Cond.value, given_1] using g105
    obtain ⟨L⟩ := args
    match L, hs with
    | [w0, w1, w2, w3, w4], _ => exact ⟨w0, w1, w2, w3, w4, rfl⟩
  have hw := fun d (hd : d ∈ tables_1) => atoms_spec (ws := Jvm.Cond.code x code maxLocals ret :: tables_1) hat d (List.mem_cons_of_mem _ hd)
  have hfit : Fit s := fun {y c} hc i hi => by
    obtain ⟨ha, rfl⟩ := Array.getElem?_eq_some_iff.mp hc
    have q := List.all_eq_true.mp ((Array.all_eq_true_iff_forall_mem.mp hF) _ (Array.getElem_mem ha)) i (List.mem_range.mpr hi)
    simpa [Array.getElem?_eq_getElem hi] using q
  obtain ⟨x0, ei0⟩ := isL_v g107
  obtain rfl : w0 = (.long x0) := Option.some.inj ei0
  obtain ⟨x1, ei1⟩ := isL_v g109
  obtain rfl : w1 = (.long x1) := Option.some.inj ei1
  obtain ⟨x2, ei2⟩ := isL_v g111
  obtain rfl : w2 = (.long x2) := Option.some.inj ei2
  obtain ⟨x3, ei3⟩ := isL_v g113
  obtain rfl : w3 = (.long x3) := Option.some.inj ei3
  obtain ⟨x4, ei4⟩ := is_v g114
  obtain rfl : w4 = (.int x4) := Option.some.inj ei4
  obtain ⟨n, o, h1, h2, h3, _, L, rfl, ⟨rfl, N⟩, hq⟩ := rm_0 l s _ hw tables_1 x0 x1 x2 x3 x4 _ _ s.heap s.heap.size (Nat.le_refl _) rfl rfl (own_bit01 x4 1) (own_bit01 x4 2) p e ha hc hk s m _ below hf ((Spec.applies_iff_loose hf).mp happ).1 ⟨rfl, State.Warmed39.refl s, rfl⟩ trivial
  refine ⟨n, _, h1, h2, h3, hpost _ _ _ _ _ _ ⟨Cond.after_iff.mpr rfl, Cond.after_iff.mpr (eq_i res_at (Term.int_eval (1)) rfl), trivial⟩ ⟨hq.1, hq.2.1, hq.2.2.1, (hq.2.2.2.sift fun y hy => Or.inr (N y hy)).mono (by decide) (by decide)⟩⟩
theorem main_1_1 : Claimed_1_1 := comes_1 fun _ _ _ _ _ _ h hF => ⟨h.1, hF⟩
theorem main_1_2 : Claimed_1_2 := comes_1 fun _ _ _ _ _ _ h hF => ⟨h.2.1, hF⟩
end Jvm.Pilot.@@N@@
namespace Jvm.Pilot.@@N@@
open Jvm Jvm.ClassFile Sem Op Lib Jvm.Free Jvm.Stand Jvm.Pilot.@@N@@.Jvm.D
/-! MADE BY PROGRAM (witnessworld.py) out of the Statement's table words and the real class files: 18 classes; the members and pool entries that the words name. The judged class is class 1, her method 1. -/
namespace start1
open Jvm.ClassFile
def u (s : String) : CpInfo := .utf8 (stringToUtf16 s)
/-- a pool by its gaps: so many unusable entries, then the entry; so many at the end -/
def gap : Nat → List CpInfo → List CpInfo
  | 0, r => r
  | n + 1, r => .unusable :: gap n r
def poolList (es : List (Nat × CpInfo)) (last : Nat) : List CpInfo := es.foldr (fun e r => gap e.1 (e.2 :: r)) (gap last [])
def pool (es : List (Nat × CpInfo)) (last : Nat) : Array CpInfo := ⟨poolList es last⟩
def fileOf (pool : Array CpInfo) (this : Nat) (attrs : Array Attribute := #[]) (ms : Array MethodInfo := #[]) (fl : Nat := 33) (sup : Nat := 0) (ifs : Array Nat := #[]) (fds : Array FieldInfo := #[]) : ClassFile where
  minorVersion := 0
  majorVersion := 65
  constantPool := pool
  accessFlags := fl
  thisClass := this
  superClass := sup
  interfaces := ifs
  fields := fds
  methods := ms
  attributes := attrs
def plain (name : String) (sup : Option ClassId) : Class where
  name := name
  kind := .ordinary
  loader := none
  accessFlags := 33
  super := sup
  interfaces := #[]
  cf := none
  fields := #[]
  methods := #[]
  instanceTypes := #[]
  staticTypes := #[]
  resolved := #[]
  callSites := []
  init := .initialized
  statics := none
  mirror := none

def pool0 : Array CpInfo := pool [(5, u "<init>"), (0, u "()V"), (1, .class_ 10), (1, u "java/lang/Object")] 113

def k0c0 : Code := { maxStack := 0, maxLocals := 1, code := object_method_1_code, exceptionTable := #[], attributes := #[] }
def k0m0 : Method := { name := "<init>", desc := "()V", sig := { parameters := [], returnType := none }, accessFlags := 1, code := some k0c0 }
/-- java/lang/Object -/
def k0 : Class := { plain "java/lang/Object" none with
  accessFlags := 33
  interfaces := #[]
  cf := some (fileOf pool0 8 #[] #[{ accessFlags := 1, nameIndex := 5, descriptorIndex := 6, attributes := #[] }] 33 0 #[] #[])
  fields := #[]
  methods := #[k0m0]
  instanceTypes := #[]
  staticTypes := #[]
  resolved := Array.replicate 124 none
  statics := none }

def pool1 : Array CpInfo := pool [(2, .class_ 4), (0, .nameAndType 5 6), (0, u "java/lang/Object"), (0, u "<init>"), (0, u "()V"), (0, .class_ 8), (0, u "com/example/matchwright/matchwright/book/OrderPool"), (0, .methodref 7 3), (0, .class_ 11), (0, u "com/example/matchwright/matchwright/book/LevelPool"), (0, .methodref 10 13), (0, .nameAndType 5 14), (0, u "(Lcom/example/matchwright/matchwright/book/OrderPool;)V"), (0, .methodref 10 16), (0, .nameAndType 17 18), (0, u "take"), (0, u "(JJ)I"), (0, .methodref 10 20), (0, .nameAndType 21 22), (0, u "setLeftQuantity"), (0, u "(IJ)V"), (0, .methodref 10 24), (0, .nameAndType 25 26), (0, u "setRed"), (0, u "(IZ)V"), (2, .integer 2147483648), (0, .methodref 10 31), (0, .nameAndType 32 33), (0, u "isRed"), (0, u "(I)Z"), (0, .class_ 35), (0, u "com/example/matchwright/matchwright/book/LevelPoolIsRedPinLaw"), (2, u "law"), (0, u "(JJJJI)Z")] 3

def k1m0 : Method := { name := "<init>", desc := "()V", sig := { parameters := [], returnType := none }, accessFlags := 1, code := none }
def k1c1 : Code := { maxStack := 5, maxLocals := 18, code := code, exceptionTable := #[], attributes := #[] }
def k1m1 : Method := { name := "law", desc := "(JJJJI)Z", sig := { parameters := [.long, .long, .long, .long, .int], returnType := some .boolean }, accessFlags := 9, code := some k1c1 }
/-- com/example/matchwright/matchwright/book/LevelPoolIsRedPinLaw -/
def k1 : Class := { plain "com/example/matchwright/matchwright/book/LevelPoolIsRedPinLaw" (some 0) with
  accessFlags := 49
  interfaces := #[]
  cf := some (fileOf pool1 34 #[] #[{ accessFlags := 1, nameIndex := 5, descriptorIndex := 6, attributes := #[] }, { accessFlags := 9, nameIndex := 38, descriptorIndex := 39, attributes := #[] }] 49 2 #[] #[])
  fields := #[]
  methods := #[k1m0, k1m1]
  instanceTypes := #[]
  staticTypes := #[]
  resolved := Array.replicate 43 none
  statics := none }

def pool2 : Array CpInfo := pool [(3, .methodref 4 5), (0, .class_ 6), (0, .nameAndType 7 8), (0, u "java/lang/Object"), (0, u "<init>"), (0, u "()V"), (0, .class_ 10), (0, u "com/example/matchwright/matchwright/book/RecordPool"), (0, .integer 2147483648), (0, .fieldref 9 13), (0, .nameAndType 14 15), (0, u "spares"), (0, u "I"), (0, .fieldref 9 17), (0, .nameAndType 18 15), (0, u "fieldsPerRecord"), (0, .fieldref 9 20), (0, .nameAndType 21 15), (0, u "spareLink"), (0, .fieldref 9 23), (0, .nameAndType 24 25), (0, u "kind"), (0, u "Ljava/lang/String;"), (0, .integer 2147483639), (0, .fieldref 9 28), (0, .nameAndType 29 15), (0, u "maxLength"), (0, .fieldref 9 31), (0, .nameAndType 32 33), (0, u "fields"), (0, u "[J"), (0, .fieldref 9 35), (0, .nameAndType 36 15), (0, u "inUse"), (0, .fieldref 9 38), (0, .nameAndType 39 15), (0, u "end"), (26, u "NONE"), (1, u "MAX_ARRAY_LENGTH"), (0, u "FIRST_CAPACITY"), (1, u "(IILjava/lang/String;)V"), (2, u "takeRecord"), (0, u "()I")] 20

def k2c0 : Code := { maxStack := 3, maxLocals := 4, code := prog_9_method_1_code, exceptionTable := #[], attributes := #[] }
def k2m0 : Method := { name := "<init>", desc := "(IILjava/lang/String;)V", sig := { parameters := [.int, .int, (.object "java/lang/String")], returnType := none }, accessFlags := 0, code := some k2c0 }
def k2c1 : Code := { maxStack := 4, maxLocals := 3, code := prog_9_method_2_code, exceptionTable := #[], attributes := #[] }
def k2m1 : Method := { name := "takeRecord", desc := "()I", sig := { parameters := [], returnType := some .int }, accessFlags := 16, code := some k2c1 }
/-- com/example/matchwright/matchwright/book/RecordPool -/
def k2 : Class := { plain "com/example/matchwright/matchwright/book/RecordPool" (some 0) with
  accessFlags := 1056
  interfaces := #[]
  cf := some (fileOf pool2 9 #[] #[{ accessFlags := 0, nameIndex := 7, descriptorIndex := 71, attributes := #[] }, { accessFlags := 16, nameIndex := 74, descriptorIndex := 75, attributes := #[] }] 1056 4 #[] #[{ accessFlags := 24, nameIndex := 66, descriptorIndex := 15, attributes := #[] }, { accessFlags := 26, nameIndex := 68, descriptorIndex := 15, attributes := #[] }, { accessFlags := 26, nameIndex := 69, descriptorIndex := 15, attributes := #[] }, { accessFlags := 0, nameIndex := 32, descriptorIndex := 33, attributes := #[] }, { accessFlags := 18, nameIndex := 18, descriptorIndex := 15, attributes := #[] }, { accessFlags := 18, nameIndex := 21, descriptorIndex := 15, attributes := #[] }, { accessFlags := 18, nameIndex := 24, descriptorIndex := 25, attributes := #[] }, { accessFlags := 18, nameIndex := 29, descriptorIndex := 15, attributes := #[] }, { accessFlags := 2, nameIndex := 39, descriptorIndex := 15, attributes := #[] }, { accessFlags := 2, nameIndex := 14, descriptorIndex := 15, attributes := #[] }, { accessFlags := 2, nameIndex := 36, descriptorIndex := 15, attributes := #[] }])
  fields := #[{ name := "NONE", type := .int, accessFlags := 24, slot := 0, constantValue := 0 }, { name := "MAX_ARRAY_LENGTH", type := .int, accessFlags := 26, slot := 1, constantValue := 0 }, { name := "FIRST_CAPACITY", type := .int, accessFlags := 26, slot := 2, constantValue := 0 }, { name := "fields", type := (.array .long), accessFlags := 0, slot := 0, constantValue := 0 }, { name := "fieldsPerRecord", type := .int, accessFlags := 18, slot := 1, constantValue := 0 }, { name := "spareLink", type := .int, accessFlags := 18, slot := 2, constantValue := 0 }, { name := "kind", type := (.object "java/lang/String"), accessFlags := 18, slot := 3, constantValue := 0 }, { name := "maxLength", type := .int, accessFlags := 18, slot := 4, constantValue := 0 }, { name := "end", type := .int, accessFlags := 2, slot := 5, constantValue := 0 }, { name := "spares", type := .int, accessFlags := 2, slot := 6, constantValue := 0 }, { name := "inUse", type := .int, accessFlags := 2, slot := 7, constantValue := 0 }]
  methods := #[k2m0, k2m1]
  instanceTypes := #[(.array .long), .int, .int, (.object "java/lang/String"), .int, .int, .int, .int]
  staticTypes := #[.int, .int, .int]
  resolved := Array.replicate 96 none
  statics := none }

def pool3 : Array CpInfo := pool [(1, .class_ 2), (0, u "com/example/matchwright/matchwright/book/OrderPool"), (0, .string 4), (0, u "resting orders"), (0, .methodref 6 7), (0, .class_ 8), (0, .nameAndType 9 10), (0, u "com/example/matchwright/matchwright/book/RecordPool"), (0, u "<init>"), (0, u "(IILjava/lang/String;)V"), (21, u "ID"), (0, u "I"), (2, u "NEXT_BY_ID"), (1, u "OPEN_QUANTITY"), (1, u "LEVEL"), (1, u "PREV"), (1, u "NEXT"), (1, u "SIDE"), (1, u "BOOK"), (1, u "OLD"), (1, u "FIELDS"), (1, u "()V")] 31

def k3c0 : Code := { maxStack := 4, maxLocals := 1, code := prog_7_method_1_code, exceptionTable := #[], attributes := #[] }
def k3m0 : Method := { name := "<init>", desc := "()V", sig := { parameters := [], returnType := none }, accessFlags := 0, code := some k3c0 }
/-- com/example/matchwright/matchwright/book/OrderPool -/
def k3 : Class := { plain "com/example/matchwright/matchwright/book/OrderPool" (some 2) with
  accessFlags := 48
  interfaces := #[]
  cf := some (fileOf pool3 1 #[] #[{ accessFlags := 0, nameIndex := 9, descriptorIndex := 54, attributes := #[] }] 48 6 #[] #[{ accessFlags := 26, nameIndex := 32, descriptorIndex := 33, attributes := #[] }, { accessFlags := 26, nameIndex := 36, descriptorIndex := 33, attributes := #[] }, { accessFlags := 26, nameIndex := 38, descriptorIndex := 33, attributes := #[] }, { accessFlags := 26, nameIndex := 40, descriptorIndex := 33, attributes := #[] }, { accessFlags := 26, nameIndex := 42, descriptorIndex := 33, attributes := #[] }, { accessFlags := 26, nameIndex := 44, descriptorIndex := 33, attributes := #[] }, { accessFlags := 26, nameIndex := 46, descriptorIndex := 33, attributes := #[] }, { accessFlags := 26, nameIndex := 48, descriptorIndex := 33, attributes := #[] }, { accessFlags := 26, nameIndex := 50, descriptorIndex := 33, attributes := #[] }, { accessFlags := 26, nameIndex := 52, descriptorIndex := 33, attributes := #[] }])
  fields := #[{ name := "ID", type := .int, accessFlags := 26, slot := 0, constantValue := 0 }, { name := "NEXT_BY_ID", type := .int, accessFlags := 26, slot := 1, constantValue := 0 }, { name := "OPEN_QUANTITY", type := .int, accessFlags := 26, slot := 2, constantValue := 0 }, { name := "LEVEL", type := .int, accessFlags := 26, slot := 3, constantValue := 0 }, { name := "PREV", type := .int, accessFlags := 26, slot := 4, constantValue := 0 }, { name := "NEXT", type := .int, accessFlags := 26, slot := 5, constantValue := 0 }, { name := "SIDE", type := .int, accessFlags := 26, slot := 6, constantValue := 0 }, { name := "BOOK", type := .int, accessFlags := 26, slot := 7, constantValue := 0 }, { name := "OLD", type := .int, accessFlags := 26, slot := 8, constantValue := 0 }, { name := "FIELDS", type := .int, accessFlags := 26, slot := 9, constantValue := 0 }]
  methods := #[k3m0]
  instanceTypes := #[(.array .long), .int, .int, (.object "java/lang/String"), .int, .int, .int, .int]
  staticTypes := #[.int, .int, .int, .int, .int, .int, .int, .int, .int, .int]
  resolved := Array.replicate 86 none
  statics := none }

def pool4 : Array CpInfo := pool [(1, .class_ 2), (0, u "java/io/Serializable"), (0, .class_ 4), (0, u "java/lang/Object")] 2

/-- java/io/Serializable -/
def k4 : Class := { plain "java/io/Serializable" (some 0) with
  accessFlags := 1537
  interfaces := #[]
  cf := some (fileOf pool4 1 #[] #[] 1537 3 #[] #[])
  fields := #[]
  methods := #[]
  instanceTypes := #[]
  staticTypes := #[]
  resolved := Array.replicate 7 none
  statics := none }

def pool5 : Array CpInfo := pool [(1, .class_ 2), (0, u "java/lang/Comparable"), (0, .class_ 4), (0, u "java/lang/Object")] 7

/-- java/lang/Comparable -/
def k5 : Class := { plain "java/lang/Comparable" (some 0) with
  accessFlags := 1537
  interfaces := #[]
  cf := some (fileOf pool5 1 #[] #[] 1537 3 #[] #[])
  fields := #[]
  methods := #[]
  instanceTypes := #[]
  staticTypes := #[]
  resolved := Array.replicate 12 none
  statics := none }

def pool6 : Array CpInfo := pool [(2, .class_ 4), (1, u "java/lang/CharSequence"), (42, .class_ 48), (0, u "java/lang/CharSequence$1CodePointIterator"), (10, .class_ 60), (0, u "java/lang/CharSequence$1CharIterator"), (5, .class_ 67), (0, u "java/lang/Object")] 63

/-- java/lang/CharSequence -/
def k6 : Class := { plain "java/lang/CharSequence" (some 0) with
  accessFlags := 1537
  interfaces := #[]
  cf := some (fileOf pool6 2 #[.nestMembers #[47, 59]] #[] 1537 66 #[] #[])
  fields := #[]
  methods := #[]
  instanceTypes := #[]
  staticTypes := #[]
  resolved := Array.replicate 131 none
  statics := none }

def pool7 : Array CpInfo := pool [(1, .class_ 2), (0, u "java/lang/constant/Constable"), (0, .class_ 4), (0, u "java/lang/Object")] 6

/-- java/lang/constant/Constable -/
def k7 : Class := { plain "java/lang/constant/Constable" (some 0) with
  accessFlags := 1537
  interfaces := #[]
  cf := some (fileOf pool7 1 #[] #[] 1537 3 #[] #[])
  fields := #[]
  methods := #[]
  instanceTypes := #[]
  staticTypes := #[]
  resolved := Array.replicate 11 none
  statics := none }

def pool8 : Array CpInfo := pool [(1, .class_ 2), (0, u "java/lang/constant/ConstantDesc"), (0, .class_ 4), (0, u "java/lang/Object")] 32

/-- java/lang/constant/ConstantDesc -/
def k8 : Class := { plain "java/lang/constant/ConstantDesc" (some 0) with
  accessFlags := 1537
  interfaces := #[]
  cf := some (fileOf pool8 1 #[] #[] 1537 3 #[] #[])
  fields := #[]
  methods := #[]
  instanceTypes := #[]
  staticTypes := #[]
  resolved := Array.replicate 37 none
  statics := none }

def pool9 : Array CpInfo := pool [(2, .class_ 4), (1, u "java/lang/Object"), (0, u "<init>"), (0, u "()V"), (3, .class_ 12), (1, u "java/lang/String"), (0, u "value"), (0, u "[B"), (2, u "coder"), (0, u "B"), (2, u "hash"), (0, u "I"), (2, u "hashIsZero"), (0, u "Z"), (13, u "COMPACT_STRINGS"), (534, .class_ 576), (0, u "java/lang/CharSequence"), (22, u "CASE_INSENSITIVE_ORDER"), (0, u "Ljava/util/Comparator;"), (500, u "serialPersistentFields"), (0, u "[Ljava/io/ObjectStreamField;"), (0, .class_ 1104), (0, u "java/lang/String$CaseInsensitiveComparator"), (1, .class_ 1107), (0, u "java/io/Serializable"), (0, .class_ 1109), (0, u "java/lang/Comparable"), (0, .class_ 1111), (0, u "java/lang/constant/Constable"), (0, .class_ 1113), (0, u "java/lang/constant/ConstantDesc"), (2, u "serialVersionUID"), (0, u "J"), (3, u "REPL"), (0, u "C"), (2, u "LATIN1"), (1, u "UTF16")] 323

def k9m0 : Method := { name := "<init>", desc := "()V", sig := { parameters := [], returnType := none }, accessFlags := 1, code := none }
/-- java/lang/String -/
def k9 : Class := { plain "java/lang/String" (some 0) with
  accessFlags := 49
  interfaces := #[4, 5, 6, 7, 8]
  cf := some (fileOf pool9 10 #[.nestMembers #[1103]] #[{ accessFlags := 1, nameIndex := 5, descriptorIndex := 6, attributes := #[] }] 49 2 #[1106, 1108, 575, 1110, 1112] #[{ accessFlags := 18, nameIndex := 13, descriptorIndex := 14, attributes := #[] }, { accessFlags := 18, nameIndex := 17, descriptorIndex := 18, attributes := #[] }, { accessFlags := 2, nameIndex := 21, descriptorIndex := 22, attributes := #[] }, { accessFlags := 2, nameIndex := 25, descriptorIndex := 26, attributes := #[] }, { accessFlags := 26, nameIndex := 1116, descriptorIndex := 1117, attributes := #[] }, { accessFlags := 24, nameIndex := 40, descriptorIndex := 26, attributes := #[] }, { accessFlags := 26, nameIndex := 1101, descriptorIndex := 1102, attributes := #[] }, { accessFlags := 26, nameIndex := 1121, descriptorIndex := 1122, attributes := #[] }, { accessFlags := 25, nameIndex := 599, descriptorIndex := 600, attributes := #[] }, { accessFlags := 24, nameIndex := 1125, descriptorIndex := 18, attributes := #[] }, { accessFlags := 24, nameIndex := 1127, descriptorIndex := 18, attributes := #[] }])
  fields := #[{ name := "value", type := (.array .byte), accessFlags := 18, slot := 0, constantValue := 0 }, { name := "coder", type := .byte, accessFlags := 18, slot := 1, constantValue := 0 }, { name := "hash", type := .int, accessFlags := 2, slot := 2, constantValue := 0 }, { name := "hashIsZero", type := .boolean, accessFlags := 2, slot := 3, constantValue := 0 }, { name := "serialVersionUID", type := .long, accessFlags := 26, slot := 0, constantValue := 0 }, { name := "COMPACT_STRINGS", type := .boolean, accessFlags := 24, slot := 1, constantValue := 0 }, { name := "serialPersistentFields", type := (.array (.object "java/io/ObjectStreamField")), accessFlags := 26, slot := 2, constantValue := 0 }, { name := "REPL", type := .char, accessFlags := 26, slot := 3, constantValue := 0 }, { name := "CASE_INSENSITIVE_ORDER", type := (.object "java/util/Comparator"), accessFlags := 25, slot := 4, constantValue := 0 }, { name := "LATIN1", type := .byte, accessFlags := 24, slot := 5, constantValue := 0 }, { name := "UTF16", type := .byte, accessFlags := 24, slot := 6, constantValue := 0 }]
  methods := #[k9m0]
  instanceTypes := #[(.array .byte), .byte, .int, .boolean]
  staticTypes := #[.long, .boolean, (.array (.object "java/io/ObjectStreamField")), .char, (.object "java/util/Comparator"), .byte, .byte]
  resolved := Array.replicate 1451 none
  statics := none }

def pool10 : Array CpInfo := pool [(1, .class_ 2), (0, u "com/example/matchwright/matchwright/book/LevelPool"), (0, .string 4), (0, u "price levels on one side of a book"), (0, .methodref 6 7), (0, .class_ 8), (0, .nameAndType 9 10), (0, u "com/example/matchwright/matchwright/book/RecordPool"), (0, u "<init>"), (0, u "(IILjava/lang/String;)V"), (0, .fieldref 1 12), (0, .nameAndType 13 14), (0, u "orders"), (0, u "Lcom/example/matchwright/matchwright/book/OrderPool;"), (0, .methodref 1 16), (0, .nameAndType 17 18), (0, u "takeRecord"), (0, u "()I"), (0, .fieldref 1 20), (0, .nameAndType 21 22), (0, u "fields"), (0, u "[J"), (0, .long 18446744071562067968), (31, .integer 2147483648), (6, u "(IJ)V"), (9, u "RANK"), (0, u "I"), (2, u "PARENT"), (1, u "LEFT"), (1, u "RIGHT"), (1, u "LEFT_QUANTITY"), (1, u "TOTAL_QUANTITY"), (1, u "RED"), (1, u "PRICE"), (1, u "FIRST"), (1, u "LAST"), (1, u "ORDER_COUNT"), (1, u "BETTER"), (1, u "WORSE"), (1, u "NEXT_SPARE"), (1, u "FIELDS"), (1, u "(Lcom/example/matchwright/matchwright/book/OrderPool;)V"), (2, u "take"), (0, u "(JJ)I"), (9, u "setLeftQuantity"), (3, u "(I)Z"), (10, u "isRed"), (0, u "setRed"), (0, u "(IZ)V")] 3

def k10c0 : Code := { maxStack := 4, maxLocals := 2, code := prog_4_method_1_code, exceptionTable := #[], attributes := #[] }
def k10m0 : Method := { name := "<init>", desc := "(Lcom/example/matchwright/matchwright/book/OrderPool;)V", sig := { parameters := [(.object "com/example/matchwright/matchwright/book/OrderPool")], returnType := none }, accessFlags := 0, code := some k10c0 }
def k10c1 : Code := { maxStack := 4, maxLocals := 6, code := prog_4_method_2_code, exceptionTable := #[], attributes := #[] }
def k10m1 : Method := { name := "take", desc := "(JJ)I", sig := { parameters := [.long, .long], returnType := some .int }, accessFlags := 0, code := some k10c1 }
def k10c2 : Code := { maxStack := 4, maxLocals := 4, code := prog_4_method_10_code, exceptionTable := #[], attributes := #[] }
def k10m2 : Method := { name := "setLeftQuantity", desc := "(IJ)V", sig := { parameters := [.int, .long], returnType := none }, accessFlags := 0, code := some k10c2 }
def k10c3 : Code := { maxStack := 3, maxLocals := 2, code := prog_4_method_26_code, exceptionTable := #[], attributes := #[] }
def k10m3 : Method := { name := "isRed", desc := "(I)Z", sig := { parameters := [.int], returnType := some .boolean }, accessFlags := 0, code := some k10c3 }
def k10c4 : Code := { maxStack := 4, maxLocals := 3, code := prog_4_method_27_code, exceptionTable := #[], attributes := #[] }
def k10m4 : Method := { name := "setRed", desc := "(IZ)V", sig := { parameters := [.int, .boolean], returnType := none }, accessFlags := 0, code := some k10c4 }
/-- com/example/matchwright/matchwright/book/LevelPool -/
def k10 : Class := { plain "com/example/matchwright/matchwright/book/LevelPool" (some 2) with
  accessFlags := 48
  interfaces := #[]
  cf := some (fileOf pool10 1 #[] #[{ accessFlags := 0, nameIndex := 9, descriptorIndex := 104, attributes := #[] }, { accessFlags := 0, nameIndex := 107, descriptorIndex := 108, attributes := #[] }, { accessFlags := 0, nameIndex := 118, descriptorIndex := 62, attributes := #[] }, { accessFlags := 0, nameIndex := 133, descriptorIndex := 122, attributes := #[] }, { accessFlags := 0, nameIndex := 134, descriptorIndex := 135, attributes := #[] }] 48 6 #[] #[{ accessFlags := 26, nameIndex := 72, descriptorIndex := 73, attributes := #[] }, { accessFlags := 26, nameIndex := 76, descriptorIndex := 73, attributes := #[] }, { accessFlags := 26, nameIndex := 78, descriptorIndex := 73, attributes := #[] }, { accessFlags := 26, nameIndex := 80, descriptorIndex := 73, attributes := #[] }, { accessFlags := 26, nameIndex := 82, descriptorIndex := 73, attributes := #[] }, { accessFlags := 26, nameIndex := 84, descriptorIndex := 73, attributes := #[] }, { accessFlags := 26, nameIndex := 86, descriptorIndex := 73, attributes := #[] }, { accessFlags := 26, nameIndex := 88, descriptorIndex := 73, attributes := #[] }, { accessFlags := 26, nameIndex := 90, descriptorIndex := 73, attributes := #[] }, { accessFlags := 26, nameIndex := 92, descriptorIndex := 73, attributes := #[] }, { accessFlags := 26, nameIndex := 94, descriptorIndex := 73, attributes := #[] }, { accessFlags := 26, nameIndex := 96, descriptorIndex := 73, attributes := #[] }, { accessFlags := 26, nameIndex := 98, descriptorIndex := 73, attributes := #[] }, { accessFlags := 26, nameIndex := 100, descriptorIndex := 73, attributes := #[] }, { accessFlags := 26, nameIndex := 102, descriptorIndex := 73, attributes := #[] }, { accessFlags := 18, nameIndex := 13, descriptorIndex := 14, attributes := #[] }])
  fields := #[{ name := "RANK", type := .int, accessFlags := 26, slot := 0, constantValue := 0 }, { name := "PARENT", type := .int, accessFlags := 26, slot := 1, constantValue := 0 }, { name := "LEFT", type := .int, accessFlags := 26, slot := 2, constantValue := 0 }, { name := "RIGHT", type := .int, accessFlags := 26, slot := 3, constantValue := 0 }, { name := "LEFT_QUANTITY", type := .int, accessFlags := 26, slot := 4, constantValue := 0 }, { name := "TOTAL_QUANTITY", type := .int, accessFlags := 26, slot := 5, constantValue := 0 }, { name := "RED", type := .int, accessFlags := 26, slot := 6, constantValue := 0 }, { name := "PRICE", type := .int, accessFlags := 26, slot := 7, constantValue := 0 }, { name := "FIRST", type := .int, accessFlags := 26, slot := 8, constantValue := 0 }, { name := "LAST", type := .int, accessFlags := 26, slot := 9, constantValue := 0 }, { name := "ORDER_COUNT", type := .int, accessFlags := 26, slot := 10, constantValue := 0 }, { name := "BETTER", type := .int, accessFlags := 26, slot := 11, constantValue := 0 }, { name := "WORSE", type := .int, accessFlags := 26, slot := 12, constantValue := 0 }, { name := "NEXT_SPARE", type := .int, accessFlags := 26, slot := 13, constantValue := 0 }, { name := "FIELDS", type := .int, accessFlags := 26, slot := 14, constantValue := 0 }, { name := "orders", type := (.object "com/example/matchwright/matchwright/book/OrderPool"), accessFlags := 18, slot := 8, constantValue := 0 }]
  methods := #[k10m0, k10m1, k10m2, k10m3, k10m4]
  instanceTypes := #[(.array .long), .int, .int, (.object "java/lang/String"), .int, .int, .int, .int, (.object "com/example/matchwright/matchwright/book/OrderPool")]
  staticTypes := #[.int, .int, .int, .int, .int, .int, .int, .int, .int, .int, .int, .int, .int, .int, .int]
  resolved := Array.replicate 139 none
  statics := none }

def pool11 : Array CpInfo := pool [(1, u "java/lang/Cloneable"), (0, .class_ 1), (0, u "java/lang/Object"), (0, .class_ 3)] 3

/-- java/lang/Cloneable -/
def k11 : Class := { plain "java/lang/Cloneable" (some 0) with
  accessFlags := 1537
  interfaces := #[]
  cf := some (fileOf pool11 2 #[] #[] 1537 4 #[] #[])
  fields := #[]
  methods := #[]
  instanceTypes := #[]
  staticTypes := #[]
  resolved := Array.replicate 8 none
  statics := none }

/-- the primitive byte -/
def k12 : Class := { plain "byte" none with kind := .primitive 'B', accessFlags := 0x411 }
/-- [B -/
def k13 : Class := { plain "[B" (some 0) with kind := .array 12 .byte, interfaces := #[11, 4], accessFlags := 1041 }

/-- the primitive int -/
def k14 : Class := { plain "int" none with kind := .primitive 'I', accessFlags := 0x411 }
/-- [I -/
def k15 : Class := { plain "[I" (some 0) with kind := .array 14 .int, interfaces := #[11, 4], accessFlags := 1041 }

/-- the primitive long -/
def k16 : Class := { plain "long" none with kind := .primitive 'J', accessFlags := 0x411 }
/-- [J -/
def k17 : Class := { plain "[J" (some 0) with kind := .array 16 .long, interfaces := #[11, 4], accessFlags := 1041 }

def heap : Heap := #[]
def classes : Array Class := #[k0, k1, k2, k3, k4, k5, k6, k7, k8, k9, k10, k11, k12, k13, k14, k15, k16, k17]
def interned : List (Array UInt16 × Addr) := []
def slotsUsed : Nat := 0
def theMethod : MethodId := ⟨1, 1⟩
def args0 : Array Value := #[.long 7, .long 7, .long 7, .long 7, .int 5]
def aboutOver (below : List Frame) : State where
  vm := { classes := classes, interned := interned.toArray }
  heap := heap
  slotsUsed := slotsUsed
  threads := #[{ frames := .invoking theMethod args0 :: below }]
def below0 : List Frame := [.native { method := ⟨0, 0⟩, args := #[] }]
def about1 : State := aboutOver below0
def p0 : Program := .bare "" "" ""
def e0 : Env := launch0.env 0 0 0
theorem w_frames : about1.frames = Frame.invoking theMethod args0 :: below0 := rfl
set_option maxRecDepth 65536 in
theorem w_args : argsFit about1.vm theMethod args0 = true := by decide +kernel
set_option maxRecDepth 65536 in
theorem w_heap : heapFits about1 = true := by decide +kernel
set_option maxRecDepth 65536 in
theorem w_runnable : about1.curStatus? = some .runnable := by decide +kernel
set_option maxRecDepth 65536 in
theorem w_alone : about1.alone = true := by decide +kernel
set_option maxRecDepth 65536 in
theorem w_named : about1.methodNamed? x = some theMethod := by decide +kernel
set_option maxRecDepth 65536 in
theorem w_hears : about1.hears theMethod below0 = true := by decide +kernel
set_option maxRecDepth 65536 in
theorem w_ripe : about1.ripe theMethod args0 below0 = true := by decide +kernel
theorem w_running : about1.status = .running := rfl
set_option maxRecDepth 65536 in
theorem w_room : about1.hasRoom e0.platform room_1 = true :=
  launch0.hasRoom_least _ room_1 (by decide +kernel) (by decide +kernel) (by decide +kernel) (by decide +kernel) (by decide +kernel) (by decide +kernel)
theorem allAtoms_all (ts : List Jvm.Cond) (a : Array Jvm.Value) (st : Jvm.State) : (allAtoms ts).before a st = ts.all (fun c => c.before a st) := by
  induction ts with
  | nil => rfl
  | cons c t ih =>
    show (Jvm.Cond.and c (allAtoms t)).before a st = _
    rw [Jvm.Cond.before_and, ih, List.all_cons]
def words1 : List Jvm.Cond := Jvm.Cond.code x code maxLocals ret :: tables_1
/-- a 'code' word, met by the world's own term for the bytes: nothing is compared byte by byte -/
theorem code_word {y : MethodName} {bytes : ByteArray} {mx : Nat} {rt : Option FieldType} {a : Array Value} {s : State} {m : MethodId} {meth : Method} {c : Code} (h1 : s.methodNamed? y = some m) (h2 : s.vm.method? m = some meth) (h3 : meth.code = some c) (h4 : c.code = bytes)
    (h5 : (c.maxLocals == mx && c.exceptionTable.isEmpty && decide (c.maxStack ≤ mostOperands) && decide (meth.sig.returnType = rt) && !meth.locks && decide (parseMethodDescriptor y.desc = some meth.sig)) = true) : (Jvm.Cond.code y bytes mx rt).before a s = true := by
  simp only [Bool.and_eq_true, beq_iff_eq, Bool.not_eq_true', decide_eq_true_eq] at h5
  obtain ⟨⟨⟨⟨⟨g1, g2⟩, g3⟩, g4⟩, g5⟩, g6⟩ := h5
  simp [Cond.before, Cond.holds, Cond.value, h1, h2, h3, h4, g1, g2, g3, g4, g5, g6]
def isCode : Jvm.Cond → Bool
  | .code _ _ _ _ => true
  | _ => false
theorem all_split {L : List Jvm.Cond} {P : Jvm.Cond → Bool} (h1 : L.all (fun c => isCode c || P c) = true) (h2 : ∀ c ∈ L.filter isCode, P c = true) : L.all P = true := by
  refine List.all_eq_true.mpr fun c hc => ?_
  have h := List.all_eq_true.mp h1 c hc
  rcases Bool.eq_false_or_eq_true (isCode c) with hi | hi
  · exact h2 c (List.mem_filter.mpr ⟨hc, hi⟩)
  · simpa [hi] using h
set_option maxRecDepth 65536 in
theorem w_c0 : (Jvm.Cond.code x code maxLocals ret).before args0 about1 = true := code_word (m := ⟨1, 1⟩) (meth := k1m1) (c := k1c1) (by decide +kernel) rfl rfl rfl (by decide +kernel)
set_option maxRecDepth 65536 in
theorem w_c1 : (Jvm.Cond.code ({ cls := "com/example/matchwright/matchwright/book/OrderPool", name := "<init>", desc := "()V" } : Jvm.MethodName) prog_7_method_1_code (1 : Nat) (Option.none : Option Jvm.ClassFile.FieldType)).before args0 about1 = true := code_word (m := ⟨3, 0⟩) (meth := k3m0) (c := k3c0) (by decide +kernel) rfl rfl rfl (by decide +kernel)
set_option maxRecDepth 65536 in
theorem w_c2 : (Jvm.Cond.code ({ cls := "com/example/matchwright/matchwright/book/RecordPool", name := "<init>", desc := "(IILjava/lang/String;)V" } : Jvm.MethodName) prog_9_method_1_code (4 : Nat) (Option.none : Option Jvm.ClassFile.FieldType)).before args0 about1 = true := code_word (m := ⟨2, 0⟩) (meth := k2m0) (c := k2c0) (by decide +kernel) rfl rfl rfl (by decide +kernel)
set_option maxRecDepth 65536 in
theorem w_c3 : (Jvm.Cond.code ({ cls := "java/lang/Object", name := "<init>", desc := "()V" } : Jvm.MethodName) object_method_1_code (1 : Nat) (Option.none : Option Jvm.ClassFile.FieldType)).before args0 about1 = true := code_word (m := ⟨0, 0⟩) (meth := k0m0) (c := k0c0) (by decide +kernel) rfl rfl rfl (by decide +kernel)
set_option maxRecDepth 65536 in
theorem w_c4 : (Jvm.Cond.code ({ cls := "com/example/matchwright/matchwright/book/LevelPool", name := "<init>", desc := "(Lcom/example/matchwright/matchwright/book/OrderPool;)V" } : Jvm.MethodName) prog_4_method_1_code (2 : Nat) (Option.none : Option Jvm.ClassFile.FieldType)).before args0 about1 = true := code_word (m := ⟨10, 0⟩) (meth := k10m0) (c := k10c0) (by decide +kernel) rfl rfl rfl (by decide +kernel)
set_option maxRecDepth 65536 in
theorem w_c5 : (Jvm.Cond.code ({ cls := "com/example/matchwright/matchwright/book/LevelPool", name := "take", desc := "(JJ)I" } : Jvm.MethodName) prog_4_method_2_code (6 : Nat) (Option.some Jvm.ClassFile.FieldType.int)).before args0 about1 = true := code_word (m := ⟨10, 1⟩) (meth := k10m1) (c := k10c1) (by decide +kernel) rfl rfl rfl (by decide +kernel)
set_option maxRecDepth 65536 in
theorem w_c6 : (Jvm.Cond.code ({ cls := "com/example/matchwright/matchwright/book/RecordPool", name := "takeRecord", desc := "()I" } : Jvm.MethodName) prog_9_method_2_code (3 : Nat) (Option.some Jvm.ClassFile.FieldType.int)).before args0 about1 = true := code_word (m := ⟨2, 1⟩) (meth := k2m1) (c := k2c1) (by decide +kernel) rfl rfl rfl (by decide +kernel)
set_option maxRecDepth 65536 in
theorem w_c7 : (Jvm.Cond.code ({ cls := "com/example/matchwright/matchwright/book/LevelPool", name := "setLeftQuantity", desc := "(IJ)V" } : Jvm.MethodName) prog_4_method_10_code (4 : Nat) (Option.none : Option Jvm.ClassFile.FieldType)).before args0 about1 = true := code_word (m := ⟨10, 2⟩) (meth := k10m2) (c := k10c2) (by decide +kernel) rfl rfl rfl (by decide +kernel)
set_option maxRecDepth 65536 in
theorem w_c8 : (Jvm.Cond.code ({ cls := "com/example/matchwright/matchwright/book/LevelPool", name := "setRed", desc := "(IZ)V" } : Jvm.MethodName) prog_4_method_27_code (3 : Nat) (Option.none : Option Jvm.ClassFile.FieldType)).before args0 about1 = true := code_word (m := ⟨10, 4⟩) (meth := k10m4) (c := k10c4) (by decide +kernel) rfl rfl rfl (by decide +kernel)
set_option maxRecDepth 65536 in
theorem w_c9 : (Jvm.Cond.code ({ cls := "com/example/matchwright/matchwright/book/LevelPool", name := "isRed", desc := "(I)Z" } : Jvm.MethodName) prog_4_method_26_code (2 : Nat) (Option.some Jvm.ClassFile.FieldType.boolean)).before args0 about1 = true := code_word (m := ⟨10, 3⟩) (meth := k10m3) (c := k10c3) (by decide +kernel) rfl rfl rfl (by decide +kernel)
def codes1 : List Jvm.Cond := [Jvm.Cond.code x code maxLocals ret, Jvm.Cond.code ({ cls := "com/example/matchwright/matchwright/book/OrderPool", name := "<init>", desc := "()V" } : Jvm.MethodName) prog_7_method_1_code (1 : Nat) (Option.none : Option Jvm.ClassFile.FieldType), Jvm.Cond.code ({ cls := "com/example/matchwright/matchwright/book/RecordPool", name := "<init>", desc := "(IILjava/lang/String;)V" } : Jvm.MethodName) prog_9_method_1_code (4 : Nat) (Option.none : Option Jvm.ClassFile.FieldType), Jvm.Cond.code ({ cls := "java/lang/Object", name := "<init>", desc := "()V" } : Jvm.MethodName) object_method_1_code (1 : Nat) (Option.none : Option Jvm.ClassFile.FieldType), Jvm.Cond.code ({ cls := "com/example/matchwright/matchwright/book/LevelPool", name := "<init>", desc := "(Lcom/example/matchwright/matchwright/book/OrderPool;)V" } : Jvm.MethodName) prog_4_method_1_code (2 : Nat) (Option.none : Option Jvm.ClassFile.FieldType), Jvm.Cond.code ({ cls := "com/example/matchwright/matchwright/book/LevelPool", name := "take", desc := "(JJ)I" } : Jvm.MethodName) prog_4_method_2_code (6 : Nat) (Option.some Jvm.ClassFile.FieldType.int), Jvm.Cond.code ({ cls := "com/example/matchwright/matchwright/book/RecordPool", name := "takeRecord", desc := "()I" } : Jvm.MethodName) prog_9_method_2_code (3 : Nat) (Option.some Jvm.ClassFile.FieldType.int), Jvm.Cond.code ({ cls := "com/example/matchwright/matchwright/book/LevelPool", name := "setLeftQuantity", desc := "(IJ)V" } : Jvm.MethodName) prog_4_method_10_code (4 : Nat) (Option.none : Option Jvm.ClassFile.FieldType), Jvm.Cond.code ({ cls := "com/example/matchwright/matchwright/book/LevelPool", name := "setRed", desc := "(IZ)V" } : Jvm.MethodName) prog_4_method_27_code (3 : Nat) (Option.none : Option Jvm.ClassFile.FieldType), Jvm.Cond.code ({ cls := "com/example/matchwright/matchwright/book/LevelPool", name := "isRed", desc := "(I)Z" } : Jvm.MethodName) prog_4_method_26_code (2 : Nat) (Option.some Jvm.ClassFile.FieldType.boolean)]
set_option maxRecDepth 65536 in
theorem codes_eq : words1.filter isCode = codes1 := rfl
theorem w_codes : ∀ c ∈ words1.filter isCode, c.before args0 about1 = true := by
  rw [codes_eq]
  intro c hc
  simp only [codes1, List.mem_cons, List.not_mem_nil, or_false] at hc
  rcases hc with rfl | rfl | rfl | rfl | rfl | rfl | rfl | rfl | rfl | rfl
  · exact w_c0
  · exact w_c1
  · exact w_c2
  · exact w_c3
  · exact w_c4
  · exact w_c5
  · exact w_c6
  · exact w_c7
  · exact w_c8
  · exact w_c9
set_option maxRecDepth 65536 in
theorem w_t1 : (words1.take 24).all (fun c => isCode c || c.before args0 about1) = true := by decide +kernel
set_option maxRecDepth 65536 in
theorem w_t2 : ((words1.drop 24).take 24).all (fun c => isCode c || c.before args0 about1) = true := by decide +kernel
set_option maxRecDepth 65536 in
theorem w_t3 : (((words1.drop 24).drop 24).take 24).all (fun c => isCode c || c.before args0 about1) = true := by decide +kernel
set_option maxRecDepth 65536 in
theorem w_t4 : (((words1.drop 24).drop 24).drop 24).all (fun c => isCode c || c.before args0 about1) = true := by decide +kernel
theorem w_tables : (allAtoms (Jvm.Cond.code x code maxLocals ret :: tables_1)).before args0 about1 = true := by
  rw [allAtoms_all]
  show words1.all (fun c => c.before args0 about1) = true
  refine all_split ?_ w_codes
  rw [← List.take_append_drop 24 words1, List.all_append, w_t1, ← List.take_append_drop 24 (words1.drop 24), List.all_append, w_t2, ← List.take_append_drop 24 ((words1.drop 24).drop 24), List.all_append, w_t3, w_t4]
  rfl
set_option maxRecDepth 65536 in
theorem w_case : (Jvm.Cond.and given_1 narrow_1).before args0 about1 = true := by decide +kernel
theorem w_applies : (headSpec (Jvm.Cond.code x code maxLocals ret :: tables_1) room_1).applies x e0.platform about1 = true :=
  (Spec.applies_iff w_frames).mpr ⟨w_running, w_runnable, w_alone, w_named, w_hears, w_ripe, w_room, w_tables⟩
theorem atStart : AtStart classFile x code maxLocals ret World_1 tables_1 room_1 Calls_1 rest_1 Pre_1 launch0 p0 e0 about1 theMethod args0 below0 :=
  ⟨lists_1, trivial, launch0.admits_env _ _ _, launch0.least_env, fairChoices_fair.cas, fairChoices_fair.clock, w_frames, w_args, w_heap, w_applies, trivial, trivial, w_case⟩
end start1
theorem witness_1 : WitnessClaimed_1 := ⟨start1.p0, start1.e0, start1.about1, start1.theMethod, start1.args0, start1.below0, start1.atStart⟩
end Jvm.Pilot.@@N@@
