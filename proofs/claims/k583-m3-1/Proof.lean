import JvmDerived
import JvmDerived.Pilot.@@N@@Statement
import JvmDerived.Pilot.@@N@@Code
set_option linter.unusedVariables false
set_option linter.unusedSimpArgs false
namespace Jvm.RoadKit
open Sem ClassFile Op Lib Jvm.Stand Jvm.Free Jvm.LawKit
section New
variable {p : Program} {l : Launch} {e : Env} {R : Room} {s : State} {m : MethodId} {args : Array Value} {below : List Frame} {meth : Method} {c : Code} {T : State} {locs : List Loc} {cells slots : Nat}
theorem retI (X : Stand p l e R s m args below meth c T locs cells slots) (hx : p.tables.exec = Jvm.exec) {pc : Nat} {Ls : Array Slot} {z : Int32} {rest : List Value} (hret : meth.sig.returnType = some .int) (hd : decode c.code pc = .ok (.ireturn, 1)) {fs : List Frame}
    (hl : ∀ (f : JFrame) (acts : List Action), f.method = m → f.locked = none → f.entered = [] → (doReturn e (T.setTop f) acts (some (.int z))).1 = T.setFrames fs) : Steps p.tables e below (T.setTop (mkF m pc Ls (.int z :: rest))) (T.setFrames fs) := by
  have hm' : T.vm.method? m = some meth := X.method'
  have hn : narrow .int (.int z) = .int z := rfl
  show Steps p.tables e below (T.setTop { method := m, pc := pc, locals := Ls, stack := _ :: rest, locked := none }) _
  jvm_step X.here [X.here.top, hx, hd, hm', hret, hn]
  first | (intro acts; rw [hl _ acts rfl rfl rfl]) | rw [hl _ _ rfl rfl rfl]
  exact Steps.refl _
end New
variable {Z : State} {h h' : Heap} {C n d : String} {v w : Value} {ws : List Addr}
theorem own_staKeep (F : Sta Z h C n d v) (K : Keep h h' ws) (q : ∀ x ∈ ws, ∀ c : Cell, h[x]? = some c → c.vm.isStatics = false) : Sta Z h' C n d v := by
  obtain ⟨cf, i, k, f, st, cell, h1, h2, h3, h4, h5, h6, h7⟩ := F
  refine ⟨cf, i, k, f, st, cell, h1, h2, h3, h4, K.2.1 _ _ h5 (fun r => ?_), h6, h7⟩
  rw [q _ r _ h5] at h6; cases h6
theorem own_staNew {n0 : Nat} (F : Sta Z h C n d v) (K : Keep h h' ws) (hn : ∀ x ∈ ws, n0 ≤ x) (hs : ∀ (x : Addr) (c : Cell), h[x]? = some c → c.vm.isStatics = true → x < n0) : Sta Z h' C n d v := by
  obtain ⟨cf, i, k, f, st, cell, h1, h2, h3, h4, h5, h6, h7⟩ := F
  exact ⟨cf, i, k, f, st, cell, h1, h2, h3, h4, K.2.1 _ _ h5 (fun r => absurd (hs _ _ h5 h6) (Nat.not_lt.mpr (hn _ r))), h6, h7⟩
theorem own_fldI {args : Array Value} {s : State} {t : Term} {a : Addr} {C n d : String} {k : Int32} (ht : t.eval args s none [] s = some (.ref a)) (h : (Cond.eq (.field t C n d) (.int k)).value args s none s [] = some true) : Fld s s.heap a C n d (.int k) := Fld.start ((fld_at ht).symm.trans (eqv_i rfl h))
theorem own_fldR {args : Array Value} {s : State} {t u : Term} {a b : Addr} {C n d : String} (ht : t.eval args s none [] s = some (.ref a)) (hu : u.eval args s none [] s = some (.ref b)) (h : (Cond.eq (.field t C n d) u).value args s none s [] = some true) : Fld s s.heap a C n d (.ref b) := by
  obtain ⟨x, y, ex, ey, kx, ky⟩ := cmp_v (Or.inl h)
  have e1 : s.fieldOf? a C n d = some x := by rw [← fld_at ht]; exact ex
  cases hu.symm.trans ey
  have q : x = .ref b := by
    cases x <;> simp [Cond.value, ex, hu] at h ⊢
    exact h
  exact Fld.start (by rw [e1, q])
theorem own_staL {args : Array Value} {s : State} {C n d : String} {k : Int64} (h : (Cond.eq (.static C n d) (.long k)).value args s none s [] = some true) : (Term.static C n d).eval args s none [] s = some (.long k) := eqv_l rfl h
end Jvm.RoadKit
namespace Jvm
open ClassFile Sem Op
/-- what the word 'methodLink' says, read off its definition: one conjunction -/
theorem own_linkParts {args : Array Value} {first s : State} {o : Option Outcome} {idx : List Nat} {cls : String} {x : MethodName} {index : Nat} (h : (Cond.methodLink cls index x).holds args first o s idx = true) (hnc : x.name ≠ "clone") :
    ∃ ci via d c mf dk ck mk meth, s.memberEntry? cls index = some (ci, via) ∧ (s.vm.findClass cls = some d ∧ s.vm.findClass x.cls = some c ∧ s.methodFound? x.cls x.name x.desc = some mf) ∧
      (s.vm.classes[d]? = some dk ∧ s.vm.classes[c]? = some ck ∧ s.vm.classes[mf.cls]? = some mk ∧ s.vm.method? mf = some meth) ∧
      s.classLinks cls ci x.cls = some true ∧ s.names cls index (.method x.cls x.name x.desc) = true ∧ s.openOr cls index (.method mf) = true ∧ ck.isInterface = via ∧ mk.loader = none ∧
      plainAccess s.vm meth.accessFlags mf.cls mk c d dk = true := by
  have hv : (Cond.methodLink cls index x).value args first o s idx = some true := by simpa [Cond.holds] using h
  unfold Cond.value at hv
  split at hv
  · rename_i ci via d c mf e1 e2 e3 e4
    simp only [Option.bind_eq_bind, Option.bind_eq_some_iff, Option.pure_def, Option.some.injEq] at hv
    obtain ⟨linked, hl, dk, hdk, ck, hck, mk, hmk, meth, hm, hv⟩ := hv
    simp [hnc] at hv
    obtain ⟨⟨⟨⟨⟨⟨⟨rfl, v2⟩, v3⟩, v4⟩, -⟩, -⟩, v5⟩, v6⟩ := hv
    exact ⟨ci, via, d, c, mf, dk, ck, mk, meth, e1, ⟨e2, e3, e4⟩, ⟨hdk, hck, hmk, hm⟩, hl, v2, v3, v4, v5, v6⟩
  · cases hv
/-- an entry that 'memberEntry?' reads as an interface's and that names a method -/
theorem own_ifEntry {s : State} {cls C n d : String} {index ci : Nat} {cp : ConstantPool} (hcp : s.poolOf? cls = some cp) (hm : s.memberEntry? cls index = some (ci, true)) (hn : namesOf? cp index = some (.method C n d)) :
    ∃ nt, cp[index]? = some (.interfaceMethodref ci nt) ∧ cp.nameAndType? nt = some (n, d) := by
  obtain ⟨i, nt, hi, hnt, -⟩ := namesOf?_method hn
  rcases hi with hi | hi
  · simp [State.memberEntry?, hcp, hi] at hm
  · have : i = ci := by simpa [State.memberEntry?, hcp, hi] using hm
    exact ⟨nt, this ▸ hi, hnt⟩
/-- where the lookup from I answers what J declares, I itself declares nothing of that name -/
theorem own_notHere {s : State} {I J n d : String} {c : ClassId} {k : Class} {r : MethodId} (hc : s.vm.findClass I = some c) (hk : s.vm.classes[c]? = some k) (hpoly : ∀ y, signaturePolymorphic k y = false)
    (hf : s.methodFound? I n d = some r) (hn : s.methodNamed? ⟨J, n, d⟩ = some r) (hIJ : I ≠ J) : k.findMethod n d = none := by
  refine Option.eq_none_iff_forall_ne_some.mpr fun j hj => hIJ ?_
  have hlt : j < k.methods.size := (Array.findIdx?_eq_some_iff_getElem.mp hj).1
  have hr : r = ⟨c, j⟩ := Option.some.inj (hf.symm.trans (State.methodFound?_declared hc hk hpoly hj (by simp [hlt])))
  obtain ⟨k', hk', hJ⟩ := className_of_methodNamed hn
  obtain ⟨k'', hk'', hI⟩ := Vm.findClass_spec hc
  subst hr
  have hsame : k'' = k' := Option.some.inj (hk''.symm.trans hk')
  exact (hI.symm.trans (congrArg Class.name hsame)).trans hJ
/-- the entry's whole linkage, cold or warm, where a superinterface J declares the method; J's method need not be public: the word's own clause on access is enough -/
theorem own_linkUp {args : Array Value} {s : State} {own J : String} {x : MethodName} {index d c : Nat} {k : Class} {r : MethodId} (hd : s.vm.findClass own = some d) (hc : s.vm.findClass x.cls = some c) (hk : s.vm.classes[c]? = some k)
    (hi : k.isInterface = true) (hf : s.methodFound? x.cls x.name x.desc = some r) (hn : s.methodNamed? ⟨J, x.name, x.desc⟩ = some r) (hJ : x.cls ≠ J) (hnc : x.name ≠ "clone")
    (hx : x.cls ≠ "java/lang/invoke/MethodHandle" ∧ x.cls ≠ "java/lang/invoke/VarHandle") (h : (Cond.methodLink own index x).before args s = true) {pl : Platform} (hpl : pl.magicAccessors = ({} : Platform).magicAccessors) :
    ∃ ci, s.vm.MethodLinksFF pl d index ci c r ∧ s.rightAt d index (.method r) = true := by
  obtain ⟨ci, via, d', c', r', dk, k', mk, meth, hent, ⟨gd, gc, gf⟩, ⟨gdk, gk, gmk, gm⟩, hcl, hnm, hop, hvia, hld, hacc⟩ := own_linkParts h hnc
  rw [hd] at gd; rw [hc] at gc; rw [hf] at gf
  cases gd; cases gc; cases gf
  rw [hk] at gk; cases gk
  rw [hi] at hvia; cases hvia
  have hpoly : ∀ y, signaturePolymorphic k y = false := by
    obtain ⟨k₀, hk₀, hnk⟩ := Vm.findClass_spec hc
    rw [hk] at hk₀; cases hk₀
    intro y
    simp [signaturePolymorphic, hnk, hx.1, hx.2]
  have hnone := own_notHere hc hk hpoly hf hn hJ
  obtain ⟨c₁, hc₁, hL⟩ := State.classLinks_spec hd hcl pl hpl
  rw [hc] at hc₁; cases hc₁
  obtain ⟨dk₁, cf, nm, ck₁, l1, l2, l3, l4, -⟩ := id hL.here
  rw [gdk] at l1; cases l1
  have hpool : s.poolOf? own = some cf.constantPool := by simp [State.poolOf?, hd, gdk, l2]
  obtain ⟨cp, hcp, hnames⟩ := State.names_spec hnm
  rw [hpool] at hcp; cases hcp
  obtain ⟨nt, hnt, hnd⟩ := own_ifEntry hpool hent hnames
  have hmk : mk.methods[r.idx]? = some meth := by simpa [Vm.method?, gmk] using gm
  refine ⟨ci, ⟨dk, cf, nt, x.name, x.desc, k, mk, meth, gdk, l2, hnt, hnd, hL, ?_, hk, hi, hpoly, hnone, State.faceFind_of_found hc hk hi hpoly hnone hf, gmk, hmk, ?_, ?_, State.openOr_spec hd gdk hop⟩, ?_⟩
  · rintro rfl
    rw [ConstantPool.className?, hnt] at l4
    cases l4
  · rw [l3, hld]
  · simpa [Vm.Plain, plainAccess, or_assoc, and_assoc] using hacc
  · simp only [State.rightAt, gdk, l2, Option.bind_some, hnames, hf, decide_true]
end Jvm
namespace Jvm.Stand
open Sem ClassFile Op Jvm.Op Lib Jvm.Free
variable {p : Program} {l : Launch} {e : Env} {R : Room} {s : State} {m : MethodId} {args : Array Value} {below : List Frame} {meth : Method} {c : Code} {T : State} {locs : List Loc} {cells slots : Nat}
/-- one invokeinterface, its linkage and what it picks being known of the start's tables -/
theorem own_ifStep (X : Stand p l e R s m args below meth c T locs cells slots) (hexec : p.tables.exec = Jvm.exec) {index count ci cI : Nat} {r0 z : MethodId} {r q : Method} {a : Addr} {cell : Cell} {kc : Class}
    (hl : s.vm.MethodLinksFF e.platform m.cls index ci cI r0) (hright : s.rightAt m.cls index (.method r0) = true) (hr : s.vm.method? r0 = some r) (hst : r.isStatic = false)
    (ha : T.heap[a]? = some cell ∧ (∀ i, cell.vm ≠ .statics i) ∧ s.vm.classes[cell.cls]? = some kc ∧ s.vm.assignable cell.cls cI = true)
    (hz : selectMethod e.platform s.vm cell.cls r0 = .method z ∧ s.vm.method? z = some q ∧ hasFlag q.accessFlags Acc.public_ = true ∧ q.isAbstract = false)
    (hw : ((cell.cls :: s.vm.superclasses cell.cls).any fun k => (declaredIn s.vm r.name r.desc k).any fun (_, y) => y.isPrivate || y.isStatic) = false)
    {g : JFrame} (hg : g.method = m) {as rest : List Value} (hlen : as.length = r.sig.parameters.length) (hstack : g.stack = as.reverse ++ .ref a :: rest) (hdg : decode c.code g.pc = .ok (.invokeinterface index count, 5)) :
    ∃ V, s.WarmedH V ∧ Steps p.tables e below (T.setTop g) (doInvoke e ((T.setVm V).setTop { g with stack := rest }) [] z (.ref a :: as).toArray).1 := by
  subst hg
  have E := State.methodEntryFF X.warmed hl hright
  have A := E.warmed.alike
  obtain ⟨a1, a2, a3, a4⟩ := ha
  obtain ⟨z1, z2, z3, z4⟩ := hz
  obtain ⟨dk, cfile, nt, -, -, ck, -, -, hd, hcf, hcp, -, -, -, hck, hif, -⟩ := id hl.here
  obtain ⟨dk', hd', ed⟩ := A.2.2 _ _ hd
  obtain ⟨ck', hck', ec⟩ := A.2.2 _ _ hck
  obtain ⟨kc', hkc', -⟩ := A.2.2 _ _ a3
  have hcf' : dk'.cf = some cfile := by rw [ed]; exact hcf
  have hif' : ck'.isInterface = true := by rw [ec]; exact hif
  rw [← A.method?] at hr z2
  rw [← A.assignable] at a4
  rw [← A.selectMethod] at z1
  simp only [← A.superclasses, ← A.declaredIn] at hw
  have named : namesResolved (T.vm.calledUp g.method.cls ci index cI r0) g.method.cls index cI := ⟨dk', cfile, ci, nt, hd', hcf', Or.inr hcp, E.classReady⟩
  refine ⟨_, E.warmed, ?_⟩
  jvm_step X.here [hexec, hdg, invokeinterface.wp_coldFace (f := g) (count := count) X.here.top X.warmed E hd hcf (Or.inr hcp) hck hif,
    invokeinterface.wp_named (s := T.setVm (T.vm.calledUp g.method.cls ci index cI r0)) (f := g) (count := count) X.here.top named E.ready ⟨dk', cfile, ci, nt, hd', hcf', hcp⟩ hck' hif' hr hst hlen hstack a1 a2 hkc' a4 z1 z2 hw z3 z4]
  intro acts
  rw [doInvoke_state]
  exact Steps.refl _
/-- an interface call to C's method y, the method named in xi.cls being declared by its superinterface J -/
theorem own_interfaceBackUp (X : Stand p l e R s m args below meth c T locs cells slots) (hexec : p.tables.exec = Jvm.exec) {own C J : String} {index count : Nat} {xi y : MethodName}
    (hown : s.vm.findClass own = some m.cls) (hlink : (Cond.methodLink own index xi).before args s = true) (hdecl : (Cond.declares ⟨J, xi.name, xi.desc⟩).before args s = true) (hnc : xi.name ≠ "clone")
    (hface : (Cond.interfaceMethod xi.cls J xi.name xi.desc).before args s = true) (hxo : xi.cls ≠ J) (hsel : (Cond.selects C xi y).before args s = true) (hinst : (Cond.instanceMethod y).before args s = true)
    (hpub : (Cond.publicMethod y).before args s = true) (hunh : (Cond.unhidden C xi.name xi.desc).before args s = true) (hcast : (Cond.castable C xi.cls).before args s = true)
    (hx : xi.cls ≠ "java/lang/invoke/MethodHandle" ∧ xi.cls ≠ "java/lang/invoke/VarHandle")
    {W : Nat} {Pre : Pt → Array Value → Prop} {Post : Pt → Array Value → Option Value → Pt → Prop} (hK : Back l R p e below s args y 5 W Pre Post)
    {b : Addr} {cB : ClassId} {kB : Class} (hcB : s.vm.findClass C = some cB) (hkB : s.vm.classes[cB]? = some kB) (hrecv : IsOf cB T b)
    {g : JFrame} (hg : g.method = m) (hsize : g.locals.size = c.maxLocals) {s₀ : State} (hcome : Steps p.tables e below s₀ (T.setTop g)) {argsL rest : List Value}
    (hlen : ∀ sig, parseMethodDescriptor xi.desc = some sig → argsL.length = sig.parameters.length) (hstack : g.stack = argsL.reverse ++ .ref b :: rest) (hW : 2 * g.monitorRoom + (rest.map fun v => v.category).sum ≤ W)
    (hdg : decode c.code g.pc = .ok (.invokeinterface index count, 5)) (hpre : ∀ vm₁, s.WarmedH vm₁ → Pre ⟨T.setVm vm₁, locs, cells, slots⟩ (.ref b :: argsL).toArray) :
    ∃ (v : Option Value) (vm₁ : Vm) (B : Pt), s.WarmedH vm₁ ∧ Stand p l e R s m args below meth c B.U B.locs B.cells B.slots ∧ Post ⟨T.setVm vm₁, locs, cells, slots⟩ (.ref b :: argsL).toArray v B ∧
      Steps p.tables e below s₀ (B.U.setTop { g with pc := g.pc + 5, stack := v.toList ++ rest }) := by
  obtain ⟨cI, kI, r0, i1, i2, i3, i4, i5⟩ := Cond.interfaceMethod_spec hface
  obtain ⟨r0', r, d1, d2, d3, d4⟩ := Cond.declares_spec hdecl
  obtain rfl : r0' = r0 := Option.some.inj (d1.symm.trans i5)
  obtain ⟨z, q, n1, n2, -, n3⟩ := Cond.instanceMethod_spec hinst
  obtain ⟨cC, rC, zC, t1, t2, t3, t4, -⟩ := Cond.selects_spec hsel
  obtain rfl : cC = cB := Option.some.inj (t1.symm.trans hcB)
  obtain rfl : rC = r0' := Option.some.inj (t2.symm.trans i4)
  obtain rfl : zC = z := Option.some.inj (t3.symm.trans n1)
  obtain ⟨c1, cT, k1, k2, k3⟩ := Cond.castable_spec hcast
  obtain rfl : c1 = cC := Option.some.inj (k1.symm.trans hcB)
  obtain rfl : cT = cI := Option.some.inj (k2.symm.trans i1)
  obtain ⟨ci, hl, hright⟩ := own_linkUp hown i1 i2 i3 i4 i5 hxo hnc hx hlink (pl := e.platform) (by rw [X.admits.platform])
  obtain ⟨cell, b1, rfl, b3⟩ := hrecv
  have hnd := name_of_methodNamed d1 d2
  have hns : ∀ i, cell.vm ≠ .statics i := by
    intro i hi
    rw [hi] at b3
    exact Bool.noConfusion b3
  have hun := Cond.unhidden_spec hcB hunh
  rw [← hnd.1, ← hnd.2] at hun
  obtain ⟨V, hV, go⟩ := X.own_ifStep hexec hl hright d2 d3 ⟨b1, hns, hkB, k3⟩ ⟨(Launch.admits_selectMethod X.admits _ _ _).trans t4, n2, Cond.publicMethod_spec n1 n2 hpub, n3⟩ hun hg (hlen _ d4) hstack hdg
  have XV := X.noted hV
  obtain ⟨v, B, XB, hpost, back⟩ := hK m meth c ⟨T.setVm V, locs, cells, slots⟩ { g with stack := rest } (.invokeinterface index count) zC (.ref b :: argsL).toArray XV hg hsize hdg hW (XV.named n1) (hpre V hV)
  exact ⟨v, V, B, hV, XB, hpost, (hcome.trans go).trans back⟩
end Jvm.Stand
namespace Jvm.RoadKit
theorem own_mvI {Z s : State} {a0 args : Array Value} {r o n d : String} (hZ : Z.Warmed39 s.vm) (w : (Cond.interfaceMethod r o n d).before a0 Z = true) : (Cond.interfaceMethod r o n d).before args s = true := by
  have h1 : (Cond.interfaceMethod r o n d).before a0 (Z.setVm s.vm) = true := by
    have hf := State.methodFound?_setVm (s := Z) hZ.alike r n d
    simp only [Cond.before, Cond.holds, Cond.value, State.vm_setVm, hZ.alike.findClass, hf, State.methodNamed?_setVm hZ.alike, arm_isInterface_setVm hZ.alike] at w ⊢
    exact w
  exact h1
end Jvm.RoadKit
namespace Jvm.Pilot.@@N@@
open Jvm Jvm.ClassFile Sem Op Lib Jvm.Free Jvm.Stand Jvm.LawKit Jvm.RoadKit Bundle Jvm.Pilot.@@N@@.Jvm.D
theorem pd___V : parseMethodDescriptor "()V" = some ⟨[], none⟩ := by decide +kernel
theorem pd___I : parseMethodDescriptor "()I" = some ⟨[], some .int⟩ := by decide +kernel
theorem pd__J_J : parseMethodDescriptor "(J)J" = some ⟨[.long], some .long⟩ := by decide +kernel
theorem pd__J_V : parseMethodDescriptor "(J)V" = some ⟨[.long], none⟩ := by decide +kernel
theorem pd__III_I : parseMethodDescriptor "(III)I" = some ⟨[.int, .int, .int], some .int⟩ := by decide +kernel
theorem pd__II_I : parseMethodDescriptor "(II)I" = some ⟨[.int, .int], some .int⟩ := by decide +kernel
theorem pd___Ljava_lang_Object_II_V : parseMethodDescriptor "([Ljava/lang/Object;II)V" = some ⟨[(.array (.object "java/lang/Object")), .int, .int], none⟩ := by decide +kernel
theorem pd___Z : parseMethodDescriptor "()Z" = some ⟨[], some .boolean⟩ := by decide +kernel
theorem pd__J_Ljava_lang_Long_ : parseMethodDescriptor "(J)Ljava/lang/Long;" = some ⟨[.long], some (.object "java/lang/Long")⟩ := by decide +kernel
theorem pd__Ljava_lang_Object__V : parseMethodDescriptor "(Ljava/lang/Object;)V" = some ⟨[(.object "java/lang/Object")], none⟩ := by decide +kernel
theorem pd__III_V : parseMethodDescriptor "(III)V" = some ⟨[.int, .int, .int], none⟩ := by decide +kernel
theorem pd__Lcom_example_gated_chorus_gatedchorus_limit_Ban__V : parseMethodDescriptor "(Lcom/example/gated_chorus/gatedchorus/limit/Ban;)V" = some ⟨[(.object "com/example/gated_chorus/gatedchorus/limit/Ban")], none⟩ := by decide +kernel
theorem pd__J_Z : parseMethodDescriptor "(J)Z" = some ⟨[.long], some .boolean⟩ := by decide +kernel
def own_max (a b : Int32) : Int32 := if a < b then b else a
def own_ban (now u : Int64) : Int32 := if now - u < 0 then 1 else 0
theorem own_maxR (x : Int32) : 1 ≤ (own_max 1 (x &&& 2147483647)).toInt := by
  unfold own_max
  have h := c_and x 2147483647 (by decide)
  have h7 : (1 : Int32).toInt = 1 := rfl
  split
  · rename_i q
    rw [Int32.lt_iff_toInt_lt] at q
    omega
  · omega
theorem own_q1 (p : Int32) : ¬ ((9223372036854 : Int64) < p.toInt64) := by
  have h1 := c_i2l p
  have h2 := rng32 p
  have h3 : (9223372036854 : Int64).toInt = 9223372036854 := rfl
  rw [Int64.lt_iff_toInt_lt]
  omega
theorem own_q2 (p : Int32) : ¬ (p.toInt64 < (-(9223372036854 : Int64))) := by
  have h1 := c_i2l p
  have h2 := rng32 p
  have h3 : (-(9223372036854 : Int64)).toInt = -9223372036854 := rfl
  rw [Int64.lt_iff_toInt_lt]
  omega
theorem own_fn (F : Int32) (h : 1 ≤ F.toInt) : (F.toInt64 * (1000000 : Int64)).toInt = F.toInt * 1000000 := by
  have h1 := c_lmul F.toInt64 1000000
  have h2 := c_i2l F
  have h3 : (1000000 : Int64).toInt = 1000000 := rfl
  have h4 := rng32 F
  have h5 := rng64 (F.toInt64 * 1000000)
  rw [h2, h3] at h1
  omega
theorem own_and63 (x : Int64) : 0 ≤ (x &&& (9223372036854775807 : Int64)).toInt := by
  have h : (x &&& (9223372036854775807 : Int64)).toInt = x.toInt % 9223372036854775808 := c_maskL x 9223372036854775807 63 (by decide) (by decide)
  omega
theorem own_cmp (t el fn : Int64) (h0 : 0 ≤ el.toInt) (h1 : 0 ≤ fn.toInt) (h2 : fn.toInt ≤ 9000000000000000) : ((t + el) - (t + fn) < (0 : Int64)) ↔ el < fn := by
  have a1 := c_ladd t el
  have a2 := c_ladd t fn
  have a3 := c_lsub (t + el) (t + fn)
  have a4 := rng64 ((t + el) - (t + fn))
  have a5 := rng64 el
  have a6 : (0 : Int64).toInt = 0 := rfl
  rw [Int64.lt_iff_toInt_lt, Int64.lt_iff_toInt_lt, a6]
  constructor <;> intro h <;> omega
theorem own_m1 {md : Int32} (h : md = 0 ∨ md = 1 ∨ md = 2 ∨ md = 3) (h2 : ¬ md = 2) (h3 : ¬ md = 3) (h0 : ¬ md = 0) : md = 1 := by
  rcases h with h | h | h | h
  · exact absurd h h0
  · exact h
  · exact absurd h h2
  · exact absurd h h3
theorem own_idxL {cl : Cell} {q : Int64} (hs : cl.slots.size = 256) (h1 : ¬ (q < (-128 : Int64))) (h2 : ¬ ((127 : Int64) < q)) : ¬ ((q.toInt32 + (128 : Int32)) < 0 ∨ cl.slots.size ≤ (q.toInt32 + (128 : Int32)).toNatClampNeg) := by
  rw [Int64.lt_iff_toInt_lt] at h1 h2
  have k1 : (-128 : Int64).toInt = -128 := rfl
  have k2 : (127 : Int64).toInt = 127 := rfl
  have k3 : (128 : Int32).toInt = 128 := rfl
  have k4 : (0 : Int32).toInt = 0 := rfl
  have a0 := c_l2i q
  have a1 := c_iadd q.toInt32 128
  have a2 := rng32 (q.toInt32 + 128)
  have a3 := rng32 q.toInt32
  rw [Int32.lt_iff_toInt_lt, hs]
  simp only [Int32.toNatClampNeg]
  omega
theorem own_md (x : Int32) : (x &&& 3) = 0 ∨ (x &&& 3) = 1 ∨ (x &&& 3) = 2 ∨ (x &&& 3) = 3 := by
  have h : (x &&& 3).toInt = x.toInt % 4 := c_mask x 3 2 (by decide) (by decide)
  have e : ((x &&& 3)).toInt = 0 ∨ ((x &&& 3)).toInt = 1 ∨ ((x &&& 3)).toInt = 2 ∨ ((x &&& 3)).toInt = 3 := by omega
  rcases e with e | e | e | e
  · exact (Or.inl (Int32.toInt_inj.mp (e.trans (by rfl))))
  · exact (Or.inr (Or.inl (Int32.toInt_inj.mp (e.trans (by rfl)))))
  · exact (Or.inr (Or.inr (Or.inl (Int32.toInt_inj.mp (e.trans (by rfl))))))
  · exact (Or.inr (Or.inr (Or.inr (Int32.toInt_inj.mp (e.trans (by rfl))))))
theorem own_arrKeep {Z : State} {h h' : Heap} {a : Addr} {c : Cell} {ty : FieldType} (A : Arr Z h a c ty) (K : Keep h h' []) : Arr Z h' a c ty := ⟨K.2.1 _ _ A.1 nin0, A.2⟩
theorem own_len {args : Array Value} {s : State} {t : Term} {a : Addr} {cl : Cell} {ty : FieldType} {k : Int32} (A : Arr s s.heap a cl ty) (ev : t.eval args s none [] s = some (.ref a)) (h : (Jvm.Cond.eq (.length t) (.int k)).value args s none s [] = some true) : cl.slots.size < 2 ^ 31 ∧ cl.slots.size.toInt32 = k := by
  have e := eqv_i (F := .int k) (y := k) rfl h
  have ha := A.fin (Vm.Alike.refl _)
  by_cases q : cl.slots.size < 2 ^ 31
  · refine ⟨q, ?_⟩
    rw [len_f ev ha q] at e
    injection e with e
    injection e
  · exfalso
    have q' : ¬ cl.slots.size < 2147483648 := q
    simp [Term.eval, ev, ha, q'] at e
theorem d1_0 : decode jdk_29_method_65_code 0 = .ok (.iload_n 0, 1) := by decide +kernel
theorem d1_1 : decode jdk_29_method_65_code 1 = .ok (.iload_n 1, 1) := by decide +kernel
theorem d1_2 : decode jdk_29_method_65_code 2 = .ok (.if_icmp .lt 7, 3) := by decide +kernel
theorem d1_5 : decode jdk_29_method_65_code 5 = .ok (.iload_n 0, 1) := by decide +kernel
theorem d1_6 : decode jdk_29_method_65_code 6 = .ok (.goto 4, 3) := by decide +kernel
theorem d1_9 : decode jdk_29_method_65_code 9 = .ok (.iload_n 1, 1) := by decide +kernel
theorem d1_10 : decode jdk_29_method_65_code 10 = .ok (.ireturn, 1) := by decide +kernel
theorem ef_1 (m : MethodId) (x0 : Int32) (x1 : Int32) : entryFrame m #[(.int x0), (.int x1)] 2 = mkF m 0 #[.val (.int x0), .val (.int x1)] [] := by first | (simp [entryFrame, mkF, argsToLocals, Value.category]; done) | rfl
def Q_1 (Z : State) (p1 : Int32) (p2 : Int32) (r : Int32) (h0 : Heap) (n0 : Nat) (v : Option Value) (h : Heap) (L : List Loc) : Prop := v = some (.int r) ∧ Fr n0 L ∧ h = h0
set_option maxRecDepth 65536 in
set_option maxHeartbeats 40000000 in
theorem rm_1 (l : Launch) (Z : State) (a0 : Array Value) (hw : ∀ d ∈ tables_1, d.before a0 Z = true) (ws : List Jvm.Cond) (p1 : Int32) (p2 : Int32) (r : Int32) (h0 : Heap) (n0 : Nat) (Z0 : n0 ≤ h0.size) (hsp : own_max p1 p2 = r) :
    MetFree l (⟨"java/lang/Math", "max", "(II)I"⟩ : MethodName) (head1 (Jvm.Cond.code (⟨"java/lang/Math", "max", "(II)I"⟩ : MethodName) jdk_29_method_65_code 2 (some .int) :: ws) ({ frames := 0, cells := 0, slots := 0, locals := 0 } : Room)) (fun a U => a = #[(.int p1), (.int p2)] ∧ Z.Warmed39 U.vm ∧ U.heap = h0) (fun _ _ _ _ _ => True) (fun _ U o U' => ∃ v L, o = .returned v ∧ Q_1 Z p1 p2 r h0 n0 v U'.heap L ∧ FrameEnd U o U' L ({ frames := 0, cells := 0, slots := 0, locals := 0 } : Room).cells ({ frames := 0, cells := 0, slots := 0, locals := 0 } : Room).slots) := by
  refine MetFree.of_bodySF (Jvm.Free.JP.mathPlain rfl (by decide +kernel)) hisR ?_
  intro p e s m args below meth c s₁ Bd hml0 hP hK
  obtain ⟨rfl, hZ, hh⟩ := hP
  have hx := Bd.exec
  have hby := Bd.bytes
  have hml : c.maxLocals = 2 := hml0
  have hown : s.vm.findClass "java/lang/Math" = some m.cls := findClass_of_methodNamed Bd.named
  have hnm := (name_of_methodNamed Bd.named Bd.method).1
  have X0 : Stand p l e ({ frames := 0, cells := 0, slots := 0, locals := 0 } : Room) s m #[(.int p1), (.int p2)] below meth c s₁ [] 0 0 := Stand.of_body Bd
  have e0 : s₁.heap = h0 := by rw [← hh, Bd.state]; rfl
  have N0 := Fr.nil n0
  have pw0 : ∀ t, Steps p.tables e below (s₁.setTop (mkF m 0 #[.val (.int p1), .val (.int p2)] [])) t → Steps p.tables e below (s₁.setTop (entryFrame m #[(.int p1), (.int p2)] 2)) t := fun t k => castTop (ef_1 m p1 p2) k
  have K0 : Keep h0 h0 [] := Keep.refl h0 []
  have pw1 : ∀ t, Steps p.tables e below (s₁.setTop (mkF m 2 #[.val (.int p1), .val (.int p2)] [(.int p2), (.int p1)])) t → Steps p.tables e below (s₁.setTop (entryFrame m #[(.int p1), (.int p2)] 2)) t := by
    intro t k
    refine pw0 t ?_
    refine XS.iloadN X0.here hx rfl (hb hby d1_0) rfl ?_
    show Steps p.tables e below (s₁.setTop (mkF m 1 #[.val (.int p1), .val (.int p2)] [(.int p1)])) _
    refine XS.iloadN X0.here hx rfl (hb hby d1_1) rfl ?_
    show Steps p.tables e below (s₁.setTop (mkF m 2 #[.val (.int p1), .val (.int p2)] [(.int p2), (.int p1)])) _
    exact k
  by_cases hc2 : p1 < p2
  · skip
    obtain ⟨fs, hr, hrun, hended, hW, hsame⟩ := X0.leave (v := some (.int p2)) (fun h => by rw [Bd.returns] at h; cases h)
    refine ⟨_, _, pw1 _ ?_, hrun, hended, _, _, rfl, ?_, ⟨_, rfl⟩, hW, hsame.mono (by decide) (by decide)⟩
    · skip
      refine XS.icmpYes X0.here hx rfl (pc0 := 2) (pc' := 9) rfl (hb hby d1_2) rfl (tlt hc2).1 (by decide) (by decide) ?_
      show Steps p.tables e below (s₁.setTop (mkF m 9 #[.val (.int p1), .val (.int p2)] [])) _
      refine XS.iloadN X0.here hx rfl (hb hby d1_9) rfl ?_
      show Steps p.tables e below (s₁.setTop (mkF m 10 #[.val (.int p1), .val (.int p2)] [(.int p2)])) _
      exact retI X0 hx Bd.returns (hb hby d1_10) hr
    · show Q_1 Z p1 p2 r h0 n0 _ s₁.heap _
      rw [e0]
      exact ⟨by rw [← hsp]; unfold own_max; rw [if_pos hc2], N0, rfl⟩
  · skip
    obtain ⟨fs, hr, hrun, hended, hW, hsame⟩ := X0.leave (v := some (.int p1)) (fun h => by rw [Bd.returns] at h; cases h)
    refine ⟨_, _, pw1 _ ?_, hrun, hended, _, _, rfl, ?_, ⟨_, rfl⟩, hW, hsame.mono (by decide) (by decide)⟩
    · skip
      refine XS.icmpNo X0.here hx rfl (hb hby d1_2) rfl (flt hc2).1 ?_
      show Steps p.tables e below (s₁.setTop (mkF m 5 #[.val (.int p1), .val (.int p2)] [])) _
      refine XS.iloadN X0.here hx rfl (hb hby d1_5) rfl ?_
      show Steps p.tables e below (s₁.setTop (mkF m 6 #[.val (.int p1), .val (.int p2)] [(.int p1)])) _
      refine XS.goto X0.here hx rfl (pc0 := 6) (pc' := 10) rfl (hb hby d1_6) (by decide) (by decide) ?_
      show Steps p.tables e below (s₁.setTop (mkF m 10 #[.val (.int p1), .val (.int p2)] [(.int p1)])) _
      exact retI X0 hx Bd.returns (hb hby d1_10) hr
    · show Q_1 Z p1 p2 r h0 n0 _ s₁.heap _
      rw [e0]
      exact ⟨by rw [← hsp]; unfold own_max; rw [if_neg hc2], N0, rfl⟩
theorem d2_0 : decode prog_16_method_1_code 0 = .ok (.aload_n 0, 1) := by decide +kernel
theorem d2_1 : decode prog_16_method_1_code 1 = .ok (.invokespecial 1, 3) := by decide +kernel
theorem d2_4 : decode prog_16_method_1_code 4 = .ok (.aload_n 0, 1) := by decide +kernel
theorem d2_5 : decode prog_16_method_1_code 5 = .ok (.iload_n 1, 1) := by decide +kernel
theorem d2_6 : decode prog_16_method_1_code 6 = .ok (.putfield 7, 3) := by decide +kernel
theorem d2_9 : decode prog_16_method_1_code 9 = .ok (.aload_n 0, 1) := by decide +kernel
theorem d2_10 : decode prog_16_method_1_code 10 = .ok (.iload_n 2, 1) := by decide +kernel
theorem d2_11 : decode prog_16_method_1_code 11 = .ok (.putfield 13, 3) := by decide +kernel
theorem d2_14 : decode prog_16_method_1_code 14 = .ok (.aload_n 0, 1) := by decide +kernel
theorem d2_15 : decode prog_16_method_1_code 15 = .ok (.iload_n 3, 1) := by decide +kernel
theorem d2_16 : decode prog_16_method_1_code 16 = .ok (.putfield 16, 3) := by decide +kernel
theorem d2_19 : decode prog_16_method_1_code 19 = .ok (.return_, 1) := by decide +kernel
theorem ef_2 (m : MethodId) (x0 : Addr) (x1 : Int32) (x2 : Int32) (x3 : Int32) : entryFrame m #[(.ref x0), (.int x1), (.int x2), (.int x3)] 4 = mkF m 0 #[.val (.ref x0), .val (.int x1), .val (.int x2), .val (.int x3)] [] := by first | (simp [entryFrame, mkF, argsToLocals, Value.category]; done) | rfl
theorem pn_com_example_gated_chorus_gatedchorus_limit_Ban : plainName "com/example/gated_chorus/gatedchorus/limit/Ban" = true := by first | (simp [plainName, overriddenIn]; done) | decide +kernel
def Q_2 (Z : State) (a1 : Addr) (p2 : Int32) (p3 : Int32) (p4 : Int32) (h0 : Heap) (n0 : Nat) (v : Option Value) (h : Heap) (L : List Loc) : Prop := v = none ∧ Fr n0 L ∧ Keep h0 h [a1] ∧ Exa Z h a1 "com/example/gated_chorus/gatedchorus/limit/Ban" ∧ Fld Z h a1 "com/example/gated_chorus/gatedchorus/limit/Ban" "kicks" "I" (.int p2) ∧ Fld Z h a1 "com/example/gated_chorus/gatedchorus/limit/Ban" "withinMs" "I" (.int p3) ∧ Fld Z h a1 "com/example/gated_chorus/gatedchorus/limit/Ban" "forMs" "I" (.int p4)
set_option maxRecDepth 65536 in
set_option maxHeartbeats 40000000 in
theorem rm_2 (l : Launch) (Z : State) (a0 : Array Value) (hw : ∀ d ∈ tables_1, d.before a0 Z = true) (ws : List Jvm.Cond) (a1 : Addr) (p2 : Int32) (p3 : Int32) (p4 : Int32) (h0 : Heap) (n0 : Nat) (Z0 : n0 ≤ h0.size) (E_a1 : Exa Z h0 a1 "com/example/gated_chorus/gatedchorus/limit/Ban") (F_kicks : Fld Z h0 a1 "com/example/gated_chorus/gatedchorus/limit/Ban" "kicks" "I" (.int (0 : Int32))) (F_withinMs : Fld Z h0 a1 "com/example/gated_chorus/gatedchorus/limit/Ban" "withinMs" "I" (.int (0 : Int32))) (F_forMs : Fld Z h0 a1 "com/example/gated_chorus/gatedchorus/limit/Ban" "forMs" "I" (.int (0 : Int32))) (g_a1 : n0 ≤ a1) :
    MetFree l (⟨"com/example/gated_chorus/gatedchorus/limit/Ban", "<init>", "(III)V"⟩ : MethodName) (head1 (Jvm.Cond.code (⟨"com/example/gated_chorus/gatedchorus/limit/Ban", "<init>", "(III)V"⟩ : MethodName) prog_16_method_1_code 4 none :: ws) ({ frames := 1, cells := 0, slots := 0, locals := 12 } : Room)) (fun a U => a = #[(.ref a1), (.int p2), (.int p3), (.int p4)] ∧ Z.Warmed39 U.vm ∧ U.heap = h0) (fun _ _ _ _ _ => True) (fun _ U o U' => ∃ v L, o = .returned v ∧ Q_2 Z a1 p2 p3 p4 h0 n0 v U'.heap L ∧ FrameEnd U o U' L ({ frames := 1, cells := 0, slots := 0, locals := 12 } : Room).cells ({ frames := 1, cells := 0, slots := 0, locals := 12 } : Room).slots) := by
  refine MetFree.of_bodySF (plainFor_of_name pn_com_example_gated_chorus_gatedchorus_limit_Ban) hisR ?_
  intro p e s m args below meth c s₁ Bd hml0 hP hK
  obtain ⟨rfl, hZ, hh⟩ := hP
  have hx := Bd.exec
  have hby := Bd.bytes
  have hml : c.maxLocals = 4 := hml0
  have hown : s.vm.findClass "com/example/gated_chorus/gatedchorus/limit/Ban" = some m.cls := findClass_of_methodNamed Bd.named
  have hnm := (name_of_methodNamed Bd.named Bd.method).1
  have X0 : Stand p l e ({ frames := 1, cells := 0, slots := 0, locals := 12 } : Room) s m #[(.ref a1), (.int p2), (.int p3), (.int p4)] below meth c s₁ [] 0 0 := Stand.of_body Bd
  have e0 : s₁.heap = h0 := by rw [← hh, Bd.state]; rfl
  have N0 := Fr.nil n0
  have pw0 : ∀ t, Steps p.tables e below (s₁.setTop (mkF m 0 #[.val (.ref a1), .val (.int p2), .val (.int p3), .val (.int p4)] [])) t → Steps p.tables e below (s₁.setTop (entryFrame m #[(.ref a1), (.int p2), (.int p3), (.int p4)] 4)) t := fun t k => castTop (ef_2 m a1 p2 p3 p4) k
  have K0 : Keep h0 h0 [a1] := Keep.refl h0 [a1]
  obtain ⟨T3, X3, e3, st3⟩ := initO X0 hx hZ hown (hw _ (List.mem_of_getElem? (i := 14) rfl)) (hw _ (List.mem_of_getElem? (i := 15) rfl)) (hw _ (List.mem_of_getElem? (i := 16) rfl)) e0 (g := (mkF m 1 #[.val (.ref a1), .val (.int p2), .val (.int p3), .val (.int p4)] [(.ref a1)])) rfl (by rw [hml]; rfl) rfl (hb hby d2_1) (by decide) (W := 0) (by show 2 * 0 + _ ≤ _; exact Nat.le_of_eq rfl) (by decide)
  obtain ⟨T4, h4, X4, e4, W4, st4⟩ := putF X3 hx hZ hown (host := "") (Or.inl (hw _ (List.mem_of_getElem? (i := 17) rfl))) Via.refl e3 F_kicks E_a1 (Or.inr ⟨(hw _ (List.mem_of_getElem? (i := 18) rfl)), rfl, hnm⟩) (hw _ (List.mem_of_getElem? (i := 9) rfl)) (ty := .int) (by decide) rfl rfl (g := (mkF m 6 #[.val (.ref a1), .val (.int p2), .val (.int p3), .val (.int p4)] [(.int p2), (.ref a1)])) rfl rfl (hb hby d2_6)
  have Fw4 := F_kicks.same W4
  have K4 : Keep h0 h4 [a1] := K0.wr W4 (Or.inl (List.mem_of_getElem? (i := 0) rfl))
  have N4 := Fr.snoc X4 N0 g_a1
  have Z4 : n0 ≤ h4.size := (Nat.le_trans Z0 (Nat.le_of_eq (Wr.size W4).symm))
  obtain ⟨T5, h5, X5, e5, W5, st5⟩ := putF X4 hx hZ hown (host := "") (Or.inl (hw _ (List.mem_of_getElem? (i := 19) rfl))) Via.refl e4 (F_withinMs.other W4 (Or.inr (slot_ne (Or.inr (hw _ (List.mem_of_getElem? (i := 20) rfl))) (Or.inr (hw _ (List.mem_of_getElem? (i := 18) rfl))) (by decide) (t := .int) (t' := .int) (by decide) (by decide)))) (E_a1.wr W4) (Or.inr ⟨(hw _ (List.mem_of_getElem? (i := 20) rfl)), rfl, hnm⟩) (hw _ (List.mem_of_getElem? (i := 9) rfl)) (ty := .int) (by decide) rfl rfl (g := (mkF m 11 #[.val (.ref a1), .val (.int p2), .val (.int p3), .val (.int p4)] [(.int p3), (.ref a1)])) rfl rfl (hb hby d2_11)
  have Fw5 := (F_withinMs.other W4 (Or.inr (slot_ne (Or.inr (hw _ (List.mem_of_getElem? (i := 20) rfl))) (Or.inr (hw _ (List.mem_of_getElem? (i := 18) rfl))) (by decide) (t := .int) (t' := .int) (by decide) (by decide)))).same W5
  have K5 : Keep h0 h5 [a1] := K4.wr W5 (Or.inl (List.mem_of_getElem? (i := 0) rfl))
  have N5 := Fr.snoc X5 N4 g_a1
  have Z5 : n0 ≤ h5.size := (Nat.le_trans Z4 (Nat.le_of_eq (Wr.size W5).symm))
  obtain ⟨T6, h6, X6, e6, W6, st6⟩ := putF X5 hx hZ hown (host := "") (Or.inl (hw _ (List.mem_of_getElem? (i := 21) rfl))) Via.refl e5 ((F_forMs.other W4 (Or.inr (slot_ne (Or.inr (hw _ (List.mem_of_getElem? (i := 22) rfl))) (Or.inr (hw _ (List.mem_of_getElem? (i := 18) rfl))) (by decide) (t := .int) (t' := .int) (by decide) (by decide)))).other W5 (Or.inr (slot_ne (Or.inr (hw _ (List.mem_of_getElem? (i := 22) rfl))) (Or.inr (hw _ (List.mem_of_getElem? (i := 20) rfl))) (by decide) (t := .int) (t' := .int) (by decide) (by decide)))) ((E_a1.wr W4).wr W5) (Or.inr ⟨(hw _ (List.mem_of_getElem? (i := 22) rfl)), rfl, hnm⟩) (hw _ (List.mem_of_getElem? (i := 9) rfl)) (ty := .int) (by decide) rfl rfl (g := (mkF m 16 #[.val (.ref a1), .val (.int p2), .val (.int p3), .val (.int p4)] [(.int p4), (.ref a1)])) rfl rfl (hb hby d2_16)
  have Fw6 := ((F_forMs.other W4 (Or.inr (slot_ne (Or.inr (hw _ (List.mem_of_getElem? (i := 22) rfl))) (Or.inr (hw _ (List.mem_of_getElem? (i := 18) rfl))) (by decide) (t := .int) (t' := .int) (by decide) (by decide)))).other W5 (Or.inr (slot_ne (Or.inr (hw _ (List.mem_of_getElem? (i := 22) rfl))) (Or.inr (hw _ (List.mem_of_getElem? (i := 20) rfl))) (by decide) (t := .int) (t' := .int) (by decide) (by decide)))).same W6
  have K6 : Keep h0 h6 [a1] := K5.wr W6 (Or.inl (List.mem_of_getElem? (i := 0) rfl))
  have N6 := Fr.snoc X6 N5 g_a1
  have Z6 : n0 ≤ h6.size := (Nat.le_trans Z5 (Nat.le_of_eq (Wr.size W6).symm))
  obtain ⟨fs, hr, hrun, hended, hW, hsame⟩ := X6.leave (v := none) (fun _ => rfl)
  refine ⟨_, _, pw0 _ ?_, hrun, hended, _, _, rfl, ?_, ⟨_, rfl⟩, hW, hsame.mono (by decide) (by decide)⟩
  · skip
    refine XS.aloadN X0.here hx rfl (hb hby d2_0) rfl rfl ?_
    show Steps p.tables e below (s₁.setTop (mkF m 1 #[.val (.ref a1), .val (.int p2), .val (.int p3), .val (.int p4)] [(.ref a1)])) _
    refine st3 _ ?_
    show Steps p.tables e below (T3.setTop (mkF m 4 #[.val (.ref a1), .val (.int p2), .val (.int p3), .val (.int p4)] [])) _
    refine XS.aloadN X3.here hx rfl (hb hby d2_4) rfl rfl ?_
    show Steps p.tables e below (T3.setTop (mkF m 5 #[.val (.ref a1), .val (.int p2), .val (.int p3), .val (.int p4)] [(.ref a1)])) _
    refine XS.iloadN X3.here hx rfl (hb hby d2_5) rfl ?_
    show Steps p.tables e below (T3.setTop (mkF m 6 #[.val (.ref a1), .val (.int p2), .val (.int p3), .val (.int p4)] [(.int p2), (.ref a1)])) _
    refine st4 _ ?_
    show Steps p.tables e below (T4.setTop (mkF m 9 #[.val (.ref a1), .val (.int p2), .val (.int p3), .val (.int p4)] [])) _
    refine XS.aloadN X4.here hx rfl (hb hby d2_9) rfl rfl ?_
    show Steps p.tables e below (T4.setTop (mkF m 10 #[.val (.ref a1), .val (.int p2), .val (.int p3), .val (.int p4)] [(.ref a1)])) _
    refine XS.iloadN X4.here hx rfl (hb hby d2_10) rfl ?_
    show Steps p.tables e below (T4.setTop (mkF m 11 #[.val (.ref a1), .val (.int p2), .val (.int p3), .val (.int p4)] [(.int p3), (.ref a1)])) _
    refine st5 _ ?_
    show Steps p.tables e below (T5.setTop (mkF m 14 #[.val (.ref a1), .val (.int p2), .val (.int p3), .val (.int p4)] [])) _
    refine XS.aloadN X5.here hx rfl (hb hby d2_14) rfl rfl ?_
    show Steps p.tables e below (T5.setTop (mkF m 15 #[.val (.ref a1), .val (.int p2), .val (.int p3), .val (.int p4)] [(.ref a1)])) _
    refine XS.iloadN X5.here hx rfl (hb hby d2_15) rfl ?_
    show Steps p.tables e below (T5.setTop (mkF m 16 #[.val (.ref a1), .val (.int p2), .val (.int p3), .val (.int p4)] [(.int p4), (.ref a1)])) _
    refine st6 _ ?_
    show Steps p.tables e below (T6.setTop (mkF m 19 #[.val (.ref a1), .val (.int p2), .val (.int p3), .val (.int p4)] [])) _
    exact X6.returnOut hx Bd.returns (hb hby d2_19) hr
  · show Q_2 Z a1 p2 p3 p4 h0 n0 _ T6.heap _
    rw [e6]
    exact ⟨rfl, N6, K6, (((E_a1.wr W4).wr W5).wr W6), ((Fw4.other W5 (Or.inr (slot_ne (Or.inr (hw _ (List.mem_of_getElem? (i := 18) rfl))) (Or.inr (hw _ (List.mem_of_getElem? (i := 20) rfl))) (by decide) (t := .int) (t' := .int) (by decide) (by decide)))).other W6 (Or.inr (slot_ne (Or.inr (hw _ (List.mem_of_getElem? (i := 18) rfl))) (Or.inr (hw _ (List.mem_of_getElem? (i := 22) rfl))) (by decide) (t := .int) (t' := .int) (by decide) (by decide)))), (Fw5.other W6 (Or.inr (slot_ne (Or.inr (hw _ (List.mem_of_getElem? (i := 20) rfl))) (Or.inr (hw _ (List.mem_of_getElem? (i := 22) rfl))) (by decide) (t := .int) (t' := .int) (by decide) (by decide)))), Fw6⟩
theorem d6_0 : decode jdk_22_method_1_code 0 = .ok (.aload_n 0, 1) := by decide +kernel
theorem d6_1 : decode jdk_22_method_1_code 1 = .ok (.invokespecial 1, 3) := by decide +kernel
theorem d6_4 : decode jdk_22_method_1_code 4 = .ok (.return_, 1) := by decide +kernel
theorem ef_6 (m : MethodId) (x0 : Addr) : entryFrame m #[(.ref x0)] 1 = mkF m 0 #[.val (.ref x0)] [] := by first | (simp [entryFrame, mkF, argsToLocals, Value.category]; done) | rfl
theorem pn_java_util_AbstractCollection : plainName "java/util/AbstractCollection" = true := by first | (simp [plainName, overriddenIn]; done) | decide +kernel
def Q_6 (Z : State) (a1 : Addr) (h0 : Heap) (n0 : Nat) (v : Option Value) (h : Heap) (L : List Loc) : Prop := v = none ∧ Fr n0 L ∧ h = h0
set_option maxRecDepth 65536 in
set_option maxHeartbeats 40000000 in
theorem rm_6 (l : Launch) (Z : State) (a0 : Array Value) (hw : ∀ d ∈ tables_1, d.before a0 Z = true) (ws : List Jvm.Cond) (a1 : Addr) (h0 : Heap) (n0 : Nat) (Z0 : n0 ≤ h0.size)  :
    MetFree l (⟨"java/util/AbstractCollection", "<init>", "()V"⟩ : MethodName) (head1 (Jvm.Cond.code (⟨"java/util/AbstractCollection", "<init>", "()V"⟩ : MethodName) jdk_22_method_1_code 1 none :: ws) ({ frames := 1, cells := 0, slots := 0, locals := 12 } : Room)) (fun a U => a = #[(.ref a1)] ∧ Z.Warmed39 U.vm ∧ U.heap = h0) (fun _ _ _ _ _ => True) (fun _ U o U' => ∃ v L, o = .returned v ∧ Q_6 Z a1 h0 n0 v U'.heap L ∧ FrameEnd U o U' L ({ frames := 1, cells := 0, slots := 0, locals := 12 } : Room).cells ({ frames := 1, cells := 0, slots := 0, locals := 12 } : Room).slots) := by
  refine MetFree.of_bodySF (plainFor_of_name pn_java_util_AbstractCollection) hisR ?_
  intro p e s m args below meth c s₁ Bd hml0 hP hK
  obtain ⟨rfl, hZ, hh⟩ := hP
  have hx := Bd.exec
  have hby := Bd.bytes
  have hml : c.maxLocals = 1 := hml0
  have hown : s.vm.findClass "java/util/AbstractCollection" = some m.cls := findClass_of_methodNamed Bd.named
  have hnm := (name_of_methodNamed Bd.named Bd.method).1
  have X0 : Stand p l e ({ frames := 1, cells := 0, slots := 0, locals := 12 } : Room) s m #[(.ref a1)] below meth c s₁ [] 0 0 := Stand.of_body Bd
  have e0 : s₁.heap = h0 := by rw [← hh, Bd.state]; rfl
  have N0 := Fr.nil n0
  have pw0 : ∀ t, Steps p.tables e below (s₁.setTop (mkF m 0 #[.val (.ref a1)] [])) t → Steps p.tables e below (s₁.setTop (entryFrame m #[(.ref a1)] 1)) t := fun t k => castTop (ef_6 m a1) k
  have K0 : Keep h0 h0 [] := Keep.refl h0 []
  obtain ⟨T7, X7, e7, st7⟩ := initO X0 hx hZ hown (hw _ (List.mem_of_getElem? (i := 39) rfl)) (hw _ (List.mem_of_getElem? (i := 15) rfl)) (hw _ (List.mem_of_getElem? (i := 16) rfl)) e0 (g := (mkF m 1 #[.val (.ref a1)] [(.ref a1)])) rfl (by rw [hml]; rfl) rfl (hb hby d6_1) (by decide) (W := 0) (by show 2 * 0 + _ ≤ _; exact Nat.le_of_eq rfl) (by decide)
  obtain ⟨fs, hr, hrun, hended, hW, hsame⟩ := X7.leave (v := none) (fun _ => rfl)
  refine ⟨_, _, pw0 _ ?_, hrun, hended, _, _, rfl, ?_, ⟨_, rfl⟩, hW, hsame.mono (by decide) (by decide)⟩
  · skip
    refine XS.aloadN X0.here hx rfl (hb hby d6_0) rfl rfl ?_
    show Steps p.tables e below (s₁.setTop (mkF m 1 #[.val (.ref a1)] [(.ref a1)])) _
    refine st7 _ ?_
    show Steps p.tables e below (T7.setTop (mkF m 4 #[.val (.ref a1)] [])) _
    exact X7.returnOut hx Bd.returns (hb hby d6_4) hr
  · show Q_6 Z a1 h0 n0 _ T7.heap _
    rw [e7]
    exact ⟨rfl, N0, rfl⟩
theorem d5_0 : decode jdk_21_method_3_code 0 = .ok (.aload_n 0, 1) := by decide +kernel
theorem d5_1 : decode jdk_21_method_3_code 1 = .ok (.invokespecial 42, 3) := by decide +kernel
theorem d5_4 : decode jdk_21_method_3_code 4 = .ok (.aload_n 0, 1) := by decide +kernel
theorem d5_5 : decode jdk_21_method_3_code 5 = .ok (.bipush 17, 2) := by decide +kernel
theorem d5_7 : decode jdk_21_method_3_code 7 = .ok (.anewarray 47, 3) := by decide +kernel
theorem d5_10 : decode jdk_21_method_3_code 10 = .ok (.putfield 3, 3) := by decide +kernel
theorem d5_13 : decode jdk_21_method_3_code 13 = .ok (.return_, 1) := by decide +kernel
theorem ef_5 (m : MethodId) (x0 : Addr) : entryFrame m #[(.ref x0)] 1 = mkF m 0 #[.val (.ref x0)] [] := by first | (simp [entryFrame, mkF, argsToLocals, Value.category]; done) | rfl
theorem pn_java_util_ArrayDeque : plainName "java/util/ArrayDeque" = true := by first | (simp [plainName, overriddenIn]; done) | decide +kernel
def Q_5 (Z : State) (a1 : Addr) (h0 : Heap) (n0 : Nat) (v : Option Value) (h : Heap) (L : List Loc) : Prop := v = none ∧ Fr n0 L ∧ Keep h0 h [a1] ∧ ∃ (ea : Addr) (kk : ClassId), h0.size ≤ ea ∧ Exa Z h a1 "java/util/ArrayDeque" ∧ Fld Z h a1 "java/util/ArrayDeque" "elements" "[Ljava/lang/Object;" (.ref ea) ∧ Fld Z h a1 "java/util/ArrayDeque" "head" "I" (.int (0 : Int32)) ∧ Fld Z h a1 "java/util/ArrayDeque" "tail" "I" (.int (0 : Int32)) ∧ Arv Z h ea kk (.object "java/lang/Object") (17 : Int32) [.null] .null ∧ Ovr Z kk "java/lang/Object"
set_option maxRecDepth 65536 in
set_option maxHeartbeats 40000000 in
theorem rm_5 (l : Launch) (Z : State) (a0 : Array Value) (hw : ∀ d ∈ tables_1, d.before a0 Z = true) (ws : List Jvm.Cond) (a1 : Addr) (h0 : Heap) (n0 : Nat) (Z0 : n0 ≤ h0.size) (E_a1 : Exa Z h0 a1 "java/util/ArrayDeque") (F_elements : Fld Z h0 a1 "java/util/ArrayDeque" "elements" "[Ljava/lang/Object;" .null) (F_head : Fld Z h0 a1 "java/util/ArrayDeque" "head" "I" (.int (0 : Int32))) (F_tail : Fld Z h0 a1 "java/util/ArrayDeque" "tail" "I" (.int (0 : Int32))) (g_a1 : n0 ≤ a1) :
    MetFree l (⟨"java/util/ArrayDeque", "<init>", "()V"⟩ : MethodName) (head1 (Jvm.Cond.code (⟨"java/util/ArrayDeque", "<init>", "()V"⟩ : MethodName) jdk_21_method_3_code 1 none :: ws) ({ frames := 2, cells := 1, slots := 17, locals := 24 } : Room)) (fun a U => a = #[(.ref a1)] ∧ Z.Warmed39 U.vm ∧ U.heap = h0) (fun _ _ _ _ _ => True) (fun _ U o U' => ∃ v L, o = .returned v ∧ Q_5 Z a1 h0 n0 v U'.heap L ∧ FrameEnd U o U' L ({ frames := 2, cells := 1, slots := 17, locals := 24 } : Room).cells ({ frames := 2, cells := 1, slots := 17, locals := 24 } : Room).slots) := by
  refine MetFree.of_bodySF (plainFor_of_name pn_java_util_ArrayDeque) hisR ?_
  intro p e s m args below meth c s₁ Bd hml0 hP hK
  obtain ⟨rfl, hZ, hh⟩ := hP
  have hx := Bd.exec
  have hby := Bd.bytes
  have hml : c.maxLocals = 1 := hml0
  have hown : s.vm.findClass "java/util/ArrayDeque" = some m.cls := findClass_of_methodNamed Bd.named
  have hnm := (name_of_methodNamed Bd.named Bd.method).1
  have X0 : Stand p l e ({ frames := 2, cells := 1, slots := 17, locals := 24 } : Room) s m #[(.ref a1)] below meth c s₁ [] 0 0 := Stand.of_body Bd
  have e0 : s₁.heap = h0 := by rw [← hh, Bd.state]; rfl
  have N0 := Fr.nil n0
  have pw0 : ∀ t, Steps p.tables e below (s₁.setTop (mkF m 0 #[.val (.ref a1)] [])) t → Steps p.tables e below (s₁.setTop (entryFrame m #[(.ref a1)] 1)) t := fun t k => castTop (ef_5 m a1) k
  have K0 : Keep h0 h0 [a1] := Keep.refl h0 [a1]
  obtain ⟨_, _, ⟨T8, L8, k8, n8⟩, -, X8, ⟨Lc8, hQ8, l8, y8, z8⟩, st8⟩ := X0.specialBack hx (y := (⟨"java/util/AbstractCollection", "<init>", "()V"⟩ : MethodName)) rfl hown (mvT hZ (hw _ (List.mem_of_getElem? (i := 33) rfl))) (mvT hZ (hw _ (List.mem_of_getElem? (i := 34) rfl))) (mvT hZ (hw _ (List.mem_of_getElem? (i := 38) rfl))) (by decide) (backOf (W := 0) (rm_6 l Z a0 hw [] a1 h0 n0 Z0 ) hZ (hw _ (List.mem_of_getElem? (i := 38) rfl)) (hw _ (List.mem_of_getElem? (i := 37) rfl)) (by decide) (by decide)) (g := (mkF m 1 #[.val (.ref a1)] [(.ref a1)])) rfl (by rw [hml]; rfl) (Steps.refl _) (a := a1) (argsL := []) (rest := []) (lenOf pd___V rfl) rfl (by show 2 * 0 + _ ≤ _; exact Nat.le_of_eq rfl) (hb hby d5_1) (fun _ _ => ⟨rfl, e0, (by decide : 0 + 0 ≤ _), (by decide : 0 + 0 ≤ _)⟩)
  dsimp only [Pt.U, Pt.locs, Pt.cells, Pt.slots] at X8 l8 y8 z8 st8 hQ8
  subst l8 y8 z8
  obtain ⟨rfl, N8q, e8q⟩ := hQ8
  have N8 := Fr.app N0 N8q
  obtain ⟨T9, h9, k9, X9, e9, E9, A9, O9, st9⟩ := newR X8 hx hZ hown (hw _ (List.mem_of_getElem? (i := 40) rfl)) (hw _ (List.mem_of_getElem? (i := 41) rfl)) e8q (g := (mkF m 7 #[.val (.ref a1)] [(.int (17 : Int32)), (.ref a1)])) rfl (hb hby d5_7) rfl (by decide) (cap := 17) (by decide) (by decide) (by decide) (by decide)
  obtain ⟨b9, g9⟩ : ∃ z, z = h0.size := ⟨_, rfl⟩
  rw [← g9] at A9 st9
  have g_b9 : n0 ≤ b9 := Nat.le_trans Z0 (Nat.le_of_eq g9.symm)
  have sz_b9 : h0.size ≤ b9 := Nat.le_trans K0.1 (Nat.le_of_eq g9.symm)
  have V9 : Arv Z h9 b9 k9 (.object "java/lang/Object") (17 : Int32) [.null] .null := (Arv.new A9 (by decide)).pad (pad_rep [] .null 1)
  have K9 : Keep h0 h9 [a1] := K0.ext E9
  have Z9 : n0 ≤ h9.size := (Nat.le_trans Z0 E9.1)
  obtain ⟨T10, h10, X10, e10, W10, st10⟩ := putF X9 hx hZ hown (host := "") (Or.inl (hw _ (List.mem_of_getElem? (i := 42) rfl))) Via.refl e9 (F_elements.ext E9) (E_a1.ext E9) (Or.inl (hw _ (List.mem_of_getElem? (i := 43) rfl))) (hw _ (List.mem_of_getElem? (i := 28) rfl)) (ty := (.array (.object "java/lang/Object"))) (by decide) rfl rfl (g := (mkF m 10 #[.val (.ref a1)] [(.ref b9), (.ref a1)])) rfl rfl (hb hby d5_10)
  have Fw10 := (F_elements.ext E9).same W10
  have K10 : Keep h0 h10 [a1] := K9.wr W10 (Or.inl (List.mem_of_getElem? (i := 0) rfl))
  have N10 := Fr.snoc X10 N8 g_a1
  have Z10 : n0 ≤ h10.size := (Nat.le_trans Z9 (Nat.le_of_eq (Wr.size W10).symm))
  obtain ⟨fs, hr, hrun, hended, hW, hsame⟩ := X10.leave (v := none) (fun _ => rfl)
  refine ⟨_, _, pw0 _ ?_, hrun, hended, _, _, rfl, ?_, ⟨_, rfl⟩, hW, hsame.mono (by decide) (by decide)⟩
  · skip
    refine XS.aloadN X0.here hx rfl (hb hby d5_0) rfl rfl ?_
    show Steps p.tables e below (s₁.setTop (mkF m 1 #[.val (.ref a1)] [(.ref a1)])) _
    refine st8.trans ?_
    show Steps p.tables e below (T8.setTop (mkF m 4 #[.val (.ref a1)] [])) _
    refine XS.aloadN X8.here hx rfl (hb hby d5_4) rfl rfl ?_
    show Steps p.tables e below (T8.setTop (mkF m 5 #[.val (.ref a1)] [(.ref a1)])) _
    refine XS.bipush X8.here hx rfl (hb hby d5_5) ?_
    show Steps p.tables e below (T8.setTop (mkF m 7 #[.val (.ref a1)] [(.int (17 : Int32)), (.ref a1)])) _
    refine st9 _ ?_
    show Steps p.tables e below (T9.setTop (mkF m 10 #[.val (.ref a1)] [(.ref b9), (.ref a1)])) _
    refine st10 _ ?_
    show Steps p.tables e below (T10.setTop (mkF m 13 #[.val (.ref a1)] [])) _
    exact X10.returnOut hx Bd.returns (hb hby d5_13) hr
  · show Q_5 Z a1 h0 n0 _ T10.heap _
    rw [e10]
    exact ⟨rfl, N10, K10, b9, k9, sz_b9, ((E_a1.ext E9).wr W10), Fw10, ((F_head.ext E9).other W10 (Or.inr (slot_ne (Or.inl (hw _ (List.mem_of_getElem? (i := 94) rfl))) (Or.inl (hw _ (List.mem_of_getElem? (i := 43) rfl))) (by decide) (t := .int) (t' := (.array (.object "java/lang/Object"))) (by decide) (by decide)))), ((F_tail.ext E9).other W10 (Or.inr (slot_ne (Or.inl (hw _ (List.mem_of_getElem? (i := 96) rfl))) (Or.inl (hw _ (List.mem_of_getElem? (i := 43) rfl))) (by decide) (t := .int) (t' := (.array (.object "java/lang/Object"))) (by decide) (by decide)))), (V9.other W10 (Ne.symm (Nat.ne_of_lt (Nat.lt_of_lt_of_le E_a1.lt (Nat.le_of_eq g9.symm))))), O9⟩
theorem d7_0 : decode prog_16_method_2_code 0 = .ok (.aload_n 0, 1) := by decide +kernel
theorem d7_1 : decode prog_16_method_2_code 1 = .ok (.getfield 7, 3) := by decide +kernel
theorem d7_4 : decode prog_16_method_2_code 4 = .ok (.ireturn, 1) := by decide +kernel
theorem ef_7 (m : MethodId) (x0 : Addr) : entryFrame m #[(.ref x0)] 1 = mkF m 0 #[.val (.ref x0)] [] := by first | (simp [entryFrame, mkF, argsToLocals, Value.category]; done) | rfl
def Q_7 (Z : State) (a1 : Addr) (r : Int32) (h0 : Heap) (n0 : Nat) (v : Option Value) (h : Heap) (L : List Loc) : Prop := v = some (.int r) ∧ Fr n0 L ∧ h = h0
set_option maxRecDepth 65536 in
set_option maxHeartbeats 40000000 in
theorem rm_7 (l : Launch) (Z : State) (a0 : Array Value) (hw : ∀ d ∈ tables_1, d.before a0 Z = true) (ws : List Jvm.Cond) (a1 : Addr) (r : Int32) (h0 : Heap) (n0 : Nat) (Z0 : n0 ≤ h0.size) (F_v : Fld Z h0 a1 "com/example/gated_chorus/gatedchorus/limit/Ban" "kicks" "I" (.int r)) :
    MetFree l (⟨"com/example/gated_chorus/gatedchorus/limit/Ban", "kicks", "()I"⟩ : MethodName) (head1 (Jvm.Cond.code (⟨"com/example/gated_chorus/gatedchorus/limit/Ban", "kicks", "()I"⟩ : MethodName) prog_16_method_2_code 1 (some .int) :: ws) ({ frames := 0, cells := 0, slots := 0, locals := 0 } : Room)) (fun a U => a = #[(.ref a1)] ∧ Z.Warmed39 U.vm ∧ U.heap = h0) (fun _ _ _ _ _ => True) (fun _ U o U' => ∃ v L, o = .returned v ∧ Q_7 Z a1 r h0 n0 v U'.heap L ∧ FrameEnd U o U' L ({ frames := 0, cells := 0, slots := 0, locals := 0 } : Room).cells ({ frames := 0, cells := 0, slots := 0, locals := 0 } : Room).slots) := by
  refine MetFree.of_bodySF (plainFor_of_name pn_com_example_gated_chorus_gatedchorus_limit_Ban) hisR ?_
  intro p e s m args below meth c s₁ Bd hml0 hP hK
  obtain ⟨rfl, hZ, hh⟩ := hP
  have hx := Bd.exec
  have hby := Bd.bytes
  have hml : c.maxLocals = 1 := hml0
  have hown : s.vm.findClass "com/example/gated_chorus/gatedchorus/limit/Ban" = some m.cls := findClass_of_methodNamed Bd.named
  have hnm := (name_of_methodNamed Bd.named Bd.method).1
  have X0 : Stand p l e ({ frames := 0, cells := 0, slots := 0, locals := 0 } : Room) s m #[(.ref a1)] below meth c s₁ [] 0 0 := Stand.of_body Bd
  have e0 : s₁.heap = h0 := by rw [← hh, Bd.state]; rfl
  have N0 := Fr.nil n0
  have pw0 : ∀ t, Steps p.tables e below (s₁.setTop (mkF m 0 #[.val (.ref a1)] [])) t → Steps p.tables e below (s₁.setTop (entryFrame m #[(.ref a1)] 1)) t := fun t k => castTop (ef_7 m a1) k
  have K0 : Keep h0 h0 [] := Keep.refl h0 []
  obtain ⟨T11, X11, e11, st11⟩ := getF X0 hx hZ hown (host := "") (Or.inl (hw _ (List.mem_of_getElem? (i := 17) rfl))) Via.refl e0 F_v (g := (mkF m 1 #[.val (.ref a1)] [(.ref a1)])) rfl rfl (hb hby d7_1)
  obtain ⟨fs, hr, hrun, hended, hW, hsame⟩ := X11.leave (v := some (.int r)) (fun h => by rw [Bd.returns] at h; cases h)
  refine ⟨_, _, pw0 _ ?_, hrun, hended, _, _, rfl, ?_, ⟨_, rfl⟩, hW, hsame.mono (by decide) (by decide)⟩
  · skip
    refine XS.aloadN X0.here hx rfl (hb hby d7_0) rfl rfl ?_
    show Steps p.tables e below (s₁.setTop (mkF m 1 #[.val (.ref a1)] [(.ref a1)])) _
    refine st11 _ ?_
    show Steps p.tables e below (T11.setTop (mkF m 4 #[.val (.ref a1)] [(.int r)])) _
    exact retI X11 hx Bd.returns (hb hby d7_4) hr
  · show Q_7 Z a1 r h0 n0 _ T11.heap _
    rw [e11]
    exact ⟨rfl, N0, rfl⟩
theorem d8_0 : decode prog_16_method_3_code 0 = .ok (.aload_n 0, 1) := by decide +kernel
theorem d8_1 : decode prog_16_method_3_code 1 = .ok (.getfield 13, 3) := by decide +kernel
theorem d8_4 : decode prog_16_method_3_code 4 = .ok (.ireturn, 1) := by decide +kernel
theorem ef_8 (m : MethodId) (x0 : Addr) : entryFrame m #[(.ref x0)] 1 = mkF m 0 #[.val (.ref x0)] [] := by first | (simp [entryFrame, mkF, argsToLocals, Value.category]; done) | rfl
def Q_8 (Z : State) (a1 : Addr) (r : Int32) (h0 : Heap) (n0 : Nat) (v : Option Value) (h : Heap) (L : List Loc) : Prop := v = some (.int r) ∧ Fr n0 L ∧ h = h0
set_option maxRecDepth 65536 in
set_option maxHeartbeats 40000000 in
theorem rm_8 (l : Launch) (Z : State) (a0 : Array Value) (hw : ∀ d ∈ tables_1, d.before a0 Z = true) (ws : List Jvm.Cond) (a1 : Addr) (r : Int32) (h0 : Heap) (n0 : Nat) (Z0 : n0 ≤ h0.size) (F_v : Fld Z h0 a1 "com/example/gated_chorus/gatedchorus/limit/Ban" "withinMs" "I" (.int r)) :
    MetFree l (⟨"com/example/gated_chorus/gatedchorus/limit/Ban", "withinMs", "()I"⟩ : MethodName) (head1 (Jvm.Cond.code (⟨"com/example/gated_chorus/gatedchorus/limit/Ban", "withinMs", "()I"⟩ : MethodName) prog_16_method_3_code 1 (some .int) :: ws) ({ frames := 0, cells := 0, slots := 0, locals := 0 } : Room)) (fun a U => a = #[(.ref a1)] ∧ Z.Warmed39 U.vm ∧ U.heap = h0) (fun _ _ _ _ _ => True) (fun _ U o U' => ∃ v L, o = .returned v ∧ Q_8 Z a1 r h0 n0 v U'.heap L ∧ FrameEnd U o U' L ({ frames := 0, cells := 0, slots := 0, locals := 0 } : Room).cells ({ frames := 0, cells := 0, slots := 0, locals := 0 } : Room).slots) := by
  refine MetFree.of_bodySF (plainFor_of_name pn_com_example_gated_chorus_gatedchorus_limit_Ban) hisR ?_
  intro p e s m args below meth c s₁ Bd hml0 hP hK
  obtain ⟨rfl, hZ, hh⟩ := hP
  have hx := Bd.exec
  have hby := Bd.bytes
  have hml : c.maxLocals = 1 := hml0
  have hown : s.vm.findClass "com/example/gated_chorus/gatedchorus/limit/Ban" = some m.cls := findClass_of_methodNamed Bd.named
  have hnm := (name_of_methodNamed Bd.named Bd.method).1
  have X0 : Stand p l e ({ frames := 0, cells := 0, slots := 0, locals := 0 } : Room) s m #[(.ref a1)] below meth c s₁ [] 0 0 := Stand.of_body Bd
  have e0 : s₁.heap = h0 := by rw [← hh, Bd.state]; rfl
  have N0 := Fr.nil n0
  have pw0 : ∀ t, Steps p.tables e below (s₁.setTop (mkF m 0 #[.val (.ref a1)] [])) t → Steps p.tables e below (s₁.setTop (entryFrame m #[(.ref a1)] 1)) t := fun t k => castTop (ef_8 m a1) k
  have K0 : Keep h0 h0 [] := Keep.refl h0 []
  obtain ⟨T12, X12, e12, st12⟩ := getF X0 hx hZ hown (host := "") (Or.inl (hw _ (List.mem_of_getElem? (i := 19) rfl))) Via.refl e0 F_v (g := (mkF m 1 #[.val (.ref a1)] [(.ref a1)])) rfl rfl (hb hby d8_1)
  obtain ⟨fs, hr, hrun, hended, hW, hsame⟩ := X12.leave (v := some (.int r)) (fun h => by rw [Bd.returns] at h; cases h)
  refine ⟨_, _, pw0 _ ?_, hrun, hended, _, _, rfl, ?_, ⟨_, rfl⟩, hW, hsame.mono (by decide) (by decide)⟩
  · skip
    refine XS.aloadN X0.here hx rfl (hb hby d8_0) rfl rfl ?_
    show Steps p.tables e below (s₁.setTop (mkF m 1 #[.val (.ref a1)] [(.ref a1)])) _
    refine st12 _ ?_
    show Steps p.tables e below (T12.setTop (mkF m 4 #[.val (.ref a1)] [(.int r)])) _
    exact retI X12 hx Bd.returns (hb hby d8_4) hr
  · show Q_8 Z a1 r h0 n0 _ T12.heap _
    rw [e12]
    exact ⟨rfl, N0, rfl⟩
theorem d10_0 : decode prog_16_method_4_code 0 = .ok (.aload_n 0, 1) := by decide +kernel
theorem d10_1 : decode prog_16_method_4_code 1 = .ok (.getfield 16, 3) := by decide +kernel
theorem d10_4 : decode prog_16_method_4_code 4 = .ok (.ireturn, 1) := by decide +kernel
theorem ef_10 (m : MethodId) (x0 : Addr) : entryFrame m #[(.ref x0)] 1 = mkF m 0 #[.val (.ref x0)] [] := by first | (simp [entryFrame, mkF, argsToLocals, Value.category]; done) | rfl
def Q_10 (Z : State) (a1 : Addr) (r : Int32) (h0 : Heap) (n0 : Nat) (v : Option Value) (h : Heap) (L : List Loc) : Prop := v = some (.int r) ∧ Fr n0 L ∧ h = h0
set_option maxRecDepth 65536 in
set_option maxHeartbeats 40000000 in
theorem rm_10 (l : Launch) (Z : State) (a0 : Array Value) (hw : ∀ d ∈ tables_1, d.before a0 Z = true) (ws : List Jvm.Cond) (a1 : Addr) (r : Int32) (h0 : Heap) (n0 : Nat) (Z0 : n0 ≤ h0.size) (F_v : Fld Z h0 a1 "com/example/gated_chorus/gatedchorus/limit/Ban" "forMs" "I" (.int r)) :
    MetFree l (⟨"com/example/gated_chorus/gatedchorus/limit/Ban", "forMs", "()I"⟩ : MethodName) (head1 (Jvm.Cond.code (⟨"com/example/gated_chorus/gatedchorus/limit/Ban", "forMs", "()I"⟩ : MethodName) prog_16_method_4_code 1 (some .int) :: ws) ({ frames := 0, cells := 0, slots := 0, locals := 0 } : Room)) (fun a U => a = #[(.ref a1)] ∧ Z.Warmed39 U.vm ∧ U.heap = h0) (fun _ _ _ _ _ => True) (fun _ U o U' => ∃ v L, o = .returned v ∧ Q_10 Z a1 r h0 n0 v U'.heap L ∧ FrameEnd U o U' L ({ frames := 0, cells := 0, slots := 0, locals := 0 } : Room).cells ({ frames := 0, cells := 0, slots := 0, locals := 0 } : Room).slots) := by
  refine MetFree.of_bodySF (plainFor_of_name pn_com_example_gated_chorus_gatedchorus_limit_Ban) hisR ?_
  intro p e s m args below meth c s₁ Bd hml0 hP hK
  obtain ⟨rfl, hZ, hh⟩ := hP
  have hx := Bd.exec
  have hby := Bd.bytes
  have hml : c.maxLocals = 1 := hml0
  have hown : s.vm.findClass "com/example/gated_chorus/gatedchorus/limit/Ban" = some m.cls := findClass_of_methodNamed Bd.named
  have hnm := (name_of_methodNamed Bd.named Bd.method).1
  have X0 : Stand p l e ({ frames := 0, cells := 0, slots := 0, locals := 0 } : Room) s m #[(.ref a1)] below meth c s₁ [] 0 0 := Stand.of_body Bd
  have e0 : s₁.heap = h0 := by rw [← hh, Bd.state]; rfl
  have N0 := Fr.nil n0
  have pw0 : ∀ t, Steps p.tables e below (s₁.setTop (mkF m 0 #[.val (.ref a1)] [])) t → Steps p.tables e below (s₁.setTop (entryFrame m #[(.ref a1)] 1)) t := fun t k => castTop (ef_10 m a1) k
  have K0 : Keep h0 h0 [] := Keep.refl h0 []
  obtain ⟨T13, X13, e13, st13⟩ := getF X0 hx hZ hown (host := "") (Or.inl (hw _ (List.mem_of_getElem? (i := 21) rfl))) Via.refl e0 F_v (g := (mkF m 1 #[.val (.ref a1)] [(.ref a1)])) rfl rfl (hb hby d10_1)
  obtain ⟨fs, hr, hrun, hended, hW, hsame⟩ := X13.leave (v := some (.int r)) (fun h => by rw [Bd.returns] at h; cases h)
  refine ⟨_, _, pw0 _ ?_, hrun, hended, _, _, rfl, ?_, ⟨_, rfl⟩, hW, hsame.mono (by decide) (by decide)⟩
  · skip
    refine XS.aloadN X0.here hx rfl (hb hby d10_0) rfl rfl ?_
    show Steps p.tables e below (s₁.setTop (mkF m 1 #[.val (.ref a1)] [(.ref a1)])) _
    refine st13 _ ?_
    show Steps p.tables e below (T13.setTop (mkF m 4 #[.val (.ref a1)] [(.int r)])) _
    exact retI X13 hx Bd.returns (hb hby d10_4) hr
  · show Q_10 Z a1 r h0 n0 _ T13.heap _
    rw [e13]
    exact ⟨rfl, N0, rfl⟩
theorem d9_0 : decode jdk_2799_method_7_code 0 = .ok (.aload_n 0, 1) := by decide +kernel
theorem d9_1 : decode jdk_2799_method_7_code 1 = .ok (.getfield 44, 3) := by decide +kernel
theorem d9_4 : decode jdk_2799_method_7_code 4 = .ok (.dup2, 1) := by decide +kernel
theorem d9_5 : decode jdk_2799_method_7_code 5 = .ok (.lstore_n 3, 1) := by decide +kernel
theorem d9_6 : decode jdk_2799_method_7_code 6 = .ok (.lconst 1, 1) := by decide +kernel
theorem d9_7 : decode jdk_2799_method_7_code 7 = .ok (.lcmp, 1) := by decide +kernel
theorem d9_8 : decode jdk_2799_method_7_code 8 = .ok (.ifCond .ne 5, 3) := by decide +kernel
theorem d9_13 : decode jdk_2799_method_7_code 13 = .ok (.lload_n 1, 1) := by decide +kernel
theorem d9_14 : decode jdk_2799_method_7_code 14 = .ok (.aload_n 0, 1) := by decide +kernel
theorem d9_15 : decode jdk_2799_method_7_code 15 = .ok (.getfield 52, 3) := by decide +kernel
theorem d9_18 : decode jdk_2799_method_7_code 18 = .ok (.dup2, 1) := by decide +kernel
theorem d9_19 : decode jdk_2799_method_7_code 19 = .ok (.lstore 5, 2) := by decide +kernel
theorem d9_21 : decode jdk_2799_method_7_code 21 = .ok (.lcmp, 1) := by decide +kernel
theorem d9_22 : decode jdk_2799_method_7_code 22 = .ok (.ifCond .le 7, 3) := by decide +kernel
theorem d9_29 : decode jdk_2799_method_7_code 29 = .ok (.lload_n 1, 1) := by decide +kernel
theorem d9_30 : decode jdk_2799_method_7_code 30 = .ok (.lload 5, 2) := by decide +kernel
theorem d9_32 : decode jdk_2799_method_7_code 32 = .ok (.lneg, 1) := by decide +kernel
theorem d9_33 : decode jdk_2799_method_7_code 33 = .ok (.lcmp, 1) := by decide +kernel
theorem d9_34 : decode jdk_2799_method_7_code 34 = .ok (.ifCond .ge 7, 3) := by decide +kernel
theorem d9_41 : decode jdk_2799_method_7_code 41 = .ok (.lload_n 1, 1) := by decide +kernel
theorem d9_42 : decode jdk_2799_method_7_code 42 = .ok (.lload_n 3, 1) := by decide +kernel
theorem d9_43 : decode jdk_2799_method_7_code 43 = .ok (.lmul, 1) := by decide +kernel
theorem d9_44 : decode jdk_2799_method_7_code 44 = .ok (.lreturn, 1) := by decide +kernel
theorem ef_9 (m : MethodId) (x0 : Addr) (x1 : Int64) : entryFrame m #[(.ref x0), (.long x1)] 7 = mkF m 0 #[.val (.ref x0), .val (.long x1), .second, .unset, .unset, .unset, .unset] [] := by first | (simp [entryFrame, mkF, argsToLocals, Value.category]; done) | rfl
theorem pn_java_util_concurrent_TimeUnit : plainName "java/util/concurrent/TimeUnit" = true := by first | (simp [plainName, overriddenIn]; done) | decide +kernel
def Q_9 (Z : State) (a1 : Addr) (q2 : Int64) (h0 : Heap) (n0 : Nat) (v : Option Value) (h : Heap) (L : List Loc) : Prop := v = some (.long (q2 * (1000000 : Int64))) ∧ Fr n0 L ∧ h = h0
set_option maxRecDepth 65536 in
set_option maxHeartbeats 40000000 in
theorem rm_9 (l : Launch) (Z : State) (a0 : Array Value) (hw : ∀ d ∈ tables_1, d.before a0 Z = true) (ws : List Jvm.Cond) (a1 : Addr) (q2 : Int64) (h0 : Heap) (n0 : Nat) (Z0 : n0 ≤ h0.size) (F_s : Fld Z h0 a1 "java/util/concurrent/TimeUnit" "scale" "J" (.long (1000000 : Int64))) (F_m : Fld Z h0 a1 "java/util/concurrent/TimeUnit" "maxNanos" "J" (.long (9223372036854 : Int64))) (hq1 : ¬ ((9223372036854 : Int64) < q2)) (hq2 : ¬ (q2 < (-(9223372036854 : Int64)))) :
    MetFree l (⟨"java/util/concurrent/TimeUnit", "toNanos", "(J)J"⟩ : MethodName) (head1 (Jvm.Cond.code (⟨"java/util/concurrent/TimeUnit", "toNanos", "(J)J"⟩ : MethodName) jdk_2799_method_7_code 7 (some .long) :: ws) ({ frames := 0, cells := 0, slots := 0, locals := 0 } : Room)) (fun a U => a = #[(.ref a1), (.long q2)] ∧ Z.Warmed39 U.vm ∧ U.heap = h0) (fun _ _ _ _ _ => True) (fun _ U o U' => ∃ v L, o = .returned v ∧ Q_9 Z a1 q2 h0 n0 v U'.heap L ∧ FrameEnd U o U' L ({ frames := 0, cells := 0, slots := 0, locals := 0 } : Room).cells ({ frames := 0, cells := 0, slots := 0, locals := 0 } : Room).slots) := by
  refine MetFree.of_bodySF (plainFor_of_name pn_java_util_concurrent_TimeUnit) hisR ?_
  intro p e s m args below meth c s₁ Bd hml0 hP hK
  obtain ⟨rfl, hZ, hh⟩ := hP
  have hx := Bd.exec
  have hby := Bd.bytes
  have hml : c.maxLocals = 7 := hml0
  have hown : s.vm.findClass "java/util/concurrent/TimeUnit" = some m.cls := findClass_of_methodNamed Bd.named
  have hnm := (name_of_methodNamed Bd.named Bd.method).1
  have X0 : Stand p l e ({ frames := 0, cells := 0, slots := 0, locals := 0 } : Room) s m #[(.ref a1), (.long q2)] below meth c s₁ [] 0 0 := Stand.of_body Bd
  have e0 : s₁.heap = h0 := by rw [← hh, Bd.state]; rfl
  have N0 := Fr.nil n0
  have pw0 : ∀ t, Steps p.tables e below (s₁.setTop (mkF m 0 #[.val (.ref a1), .val (.long q2), .second, .unset, .unset, .unset, .unset] [])) t → Steps p.tables e below (s₁.setTop (entryFrame m #[(.ref a1), (.long q2)] 7)) t := fun t k => castTop (ef_9 m a1 q2) k
  have K0 : Keep h0 h0 [] := Keep.refl h0 []
  obtain ⟨T14, X14, e14, st14⟩ := getF X0 hx hZ hown (host := "") (Or.inl (hw _ (List.mem_of_getElem? (i := 65) rfl))) Via.refl e0 F_s (g := (mkF m 1 #[.val (.ref a1), .val (.long q2), .second, .unset, .unset, .unset, .unset] [(.ref a1)])) rfl rfl (hb hby d9_1)
  obtain ⟨T15, X15, e15, st15⟩ := getF X14 hx hZ hown (host := "") (Or.inl (hw _ (List.mem_of_getElem? (i := 67) rfl))) Via.refl e14 F_m (g := (mkF m 15 #[.val (.ref a1), .val (.long q2), .second, .val (.long (1000000 : Int64)), .second, .unset, .unset] [(.ref a1), (.long q2)])) rfl rfl (hb hby d9_15)
  obtain ⟨fs, hr, hrun, hended, hW, hsame⟩ := X15.leave (v := some (.long (q2 * (1000000 : Int64)))) (fun h => by rw [Bd.returns] at h; cases h)
  refine ⟨_, _, pw0 _ ?_, hrun, hended, _, _, rfl, ?_, ⟨_, rfl⟩, hW, hsame.mono (by decide) (by decide)⟩
  · skip
    refine XS.aloadN X0.here hx rfl (hb hby d9_0) rfl rfl ?_
    show Steps p.tables e below (s₁.setTop (mkF m 1 #[.val (.ref a1), .val (.long q2), .second, .unset, .unset, .unset, .unset] [(.ref a1)])) _
    refine st14 _ ?_
    show Steps p.tables e below (T14.setTop (mkF m 4 #[.val (.ref a1), .val (.long q2), .second, .unset, .unset, .unset, .unset] [(.long (1000000 : Int64))])) _
    refine Jvm.Free.XT.dup2L X14.here hx rfl (hb hby d9_4) rfl ?_
    show Steps p.tables e below (T14.setTop (mkF m 5 #[.val (.ref a1), .val (.long q2), .second, .unset, .unset, .unset, .unset] [(.long (1000000 : Int64)), (.long (1000000 : Int64))])) _
    refine XS.lstoreN X14.here hx rfl (hb hby d9_5) rfl (l' := #[.val (.ref a1), .val (.long q2), .second, .val (.long (1000000 : Int64)), .second, .unset, .unset]) rfl ?_
    show Steps p.tables e below (T14.setTop (mkF m 6 #[.val (.ref a1), .val (.long q2), .second, .val (.long (1000000 : Int64)), .second, .unset, .unset] [(.long (1000000 : Int64))])) _
    refine XS.lconst X14.here hx rfl (hb hby d9_6) ?_
    show Steps p.tables e below (T14.setTop (mkF m 7 #[.val (.ref a1), .val (.long q2), .second, .val (.long (1000000 : Int64)), .second, .unset, .unset] [(.long (1 : Int64)), (.long (1000000 : Int64))])) _
    refine XS.lcmp X14.here hx rfl (hb hby d9_7) rfl ?_
    show Steps p.tables e below (T14.setTop (mkF m 8 #[.val (.ref a1), .val (.long q2), .second, .val (.long (1000000 : Int64)), .second, .unset, .unset] [(.int (lcmpW (1000000 : Int64) (1 : Int64)))])) _
    refine XS.ifYes X14.here hx rfl (pc0 := 8) (pc' := 13) rfl (hb hby d9_8) rfl ((if0 _ _).trans (feq (mt (lw_eq (1000000 : Int64) (1 : Int64)).1 (by decide : ¬ ((1000000 : Int64) = (1 : Int64))))).2) (by decide) (by decide) ?_
    show Steps p.tables e below (T14.setTop (mkF m 13 #[.val (.ref a1), .val (.long q2), .second, .val (.long (1000000 : Int64)), .second, .unset, .unset] [])) _
    refine XS.lloadN X14.here hx rfl (hb hby d9_13) rfl ?_
    show Steps p.tables e below (T14.setTop (mkF m 14 #[.val (.ref a1), .val (.long q2), .second, .val (.long (1000000 : Int64)), .second, .unset, .unset] [(.long q2)])) _
    refine XS.aloadN X14.here hx rfl (hb hby d9_14) rfl rfl ?_
    show Steps p.tables e below (T14.setTop (mkF m 15 #[.val (.ref a1), .val (.long q2), .second, .val (.long (1000000 : Int64)), .second, .unset, .unset] [(.ref a1), (.long q2)])) _
    refine st15 _ ?_
    show Steps p.tables e below (T15.setTop (mkF m 18 #[.val (.ref a1), .val (.long q2), .second, .val (.long (1000000 : Int64)), .second, .unset, .unset] [(.long (9223372036854 : Int64)), (.long q2)])) _
    refine Jvm.Free.XT.dup2L X15.here hx rfl (hb hby d9_18) rfl ?_
    show Steps p.tables e below (T15.setTop (mkF m 19 #[.val (.ref a1), .val (.long q2), .second, .val (.long (1000000 : Int64)), .second, .unset, .unset] [(.long (9223372036854 : Int64)), (.long (9223372036854 : Int64)), (.long q2)])) _
    refine XS.lstore X15.here hx rfl (hb hby d9_19) rfl (l' := #[.val (.ref a1), .val (.long q2), .second, .val (.long (1000000 : Int64)), .second, .val (.long (9223372036854 : Int64)), .second]) rfl ?_
    show Steps p.tables e below (T15.setTop (mkF m 21 #[.val (.ref a1), .val (.long q2), .second, .val (.long (1000000 : Int64)), .second, .val (.long (9223372036854 : Int64)), .second] [(.long (9223372036854 : Int64)), (.long q2)])) _
    refine XS.lcmp X15.here hx rfl (hb hby d9_21) rfl ?_
    show Steps p.tables e below (T15.setTop (mkF m 22 #[.val (.ref a1), .val (.long q2), .second, .val (.long (1000000 : Int64)), .second, .val (.long (9223372036854 : Int64)), .second] [(.int (lcmpW q2 (9223372036854 : Int64)))])) _
    refine XS.ifYes X15.here hx rfl (pc0 := 22) (pc' := 29) rfl (hb hby d9_22) rfl ((if0 _ _).trans (flt (mt (lw_gt q2 (9223372036854 : Int64)).1 (hq1 : ¬ ((9223372036854 : Int64) < q2)))).2.2.2) (by decide) (by decide) ?_
    show Steps p.tables e below (T15.setTop (mkF m 29 #[.val (.ref a1), .val (.long q2), .second, .val (.long (1000000 : Int64)), .second, .val (.long (9223372036854 : Int64)), .second] [])) _
    refine XS.lloadN X15.here hx rfl (hb hby d9_29) rfl ?_
    show Steps p.tables e below (T15.setTop (mkF m 30 #[.val (.ref a1), .val (.long q2), .second, .val (.long (1000000 : Int64)), .second, .val (.long (9223372036854 : Int64)), .second] [(.long q2)])) _
    refine XS.lload X15.here hx rfl (hb hby d9_30) rfl ?_
    show Steps p.tables e below (T15.setTop (mkF m 32 #[.val (.ref a1), .val (.long q2), .second, .val (.long (1000000 : Int64)), .second, .val (.long (9223372036854 : Int64)), .second] [(.long (9223372036854 : Int64)), (.long q2)])) _
    refine XS.lneg X15.here hx rfl (hb hby d9_32) rfl ?_
    show Steps p.tables e below (T15.setTop (mkF m 33 #[.val (.ref a1), .val (.long q2), .second, .val (.long (1000000 : Int64)), .second, .val (.long (9223372036854 : Int64)), .second] [(.long (-(9223372036854 : Int64))), (.long q2)])) _
    refine XS.lcmp X15.here hx rfl (hb hby d9_33) rfl ?_
    show Steps p.tables e below (T15.setTop (mkF m 34 #[.val (.ref a1), .val (.long q2), .second, .val (.long (1000000 : Int64)), .second, .val (.long (9223372036854 : Int64)), .second] [(.int (lcmpW q2 (-(9223372036854 : Int64))))])) _
    refine XS.ifYes X15.here hx rfl (pc0 := 34) (pc' := 41) rfl (hb hby d9_34) rfl ((if0 _ _).trans (flt (mt (lw_lt q2 (-(9223372036854 : Int64))).1 (hq2 : ¬ (q2 < (-(9223372036854 : Int64)))))).2.1) (by decide) (by decide) ?_
    show Steps p.tables e below (T15.setTop (mkF m 41 #[.val (.ref a1), .val (.long q2), .second, .val (.long (1000000 : Int64)), .second, .val (.long (9223372036854 : Int64)), .second] [])) _
    refine XS.lloadN X15.here hx rfl (hb hby d9_41) rfl ?_
    show Steps p.tables e below (T15.setTop (mkF m 42 #[.val (.ref a1), .val (.long q2), .second, .val (.long (1000000 : Int64)), .second, .val (.long (9223372036854 : Int64)), .second] [(.long q2)])) _
    refine XS.lloadN X15.here hx rfl (hb hby d9_42) rfl ?_
    show Steps p.tables e below (T15.setTop (mkF m 43 #[.val (.ref a1), .val (.long q2), .second, .val (.long (1000000 : Int64)), .second, .val (.long (9223372036854 : Int64)), .second] [(.long (1000000 : Int64)), (.long q2)])) _
    refine XS.lmul X15.here hx rfl (hb hby d9_43) rfl ?_
    show Steps p.tables e below (T15.setTop (mkF m 44 #[.val (.ref a1), .val (.long q2), .second, .val (.long (1000000 : Int64)), .second, .val (.long (9223372036854 : Int64)), .second] [(.long (q2 * (1000000 : Int64)))])) _
    exact retOut X15 hx Bd.returns rfl (Or.inr (Or.inl ⟨rfl, rfl, _, rfl⟩)) (hb hby d9_44) hr
  · show Q_9 Z a1 q2 h0 n0 _ T15.heap _
    rw [e15]
    exact ⟨rfl, N0, rfl⟩
theorem d4_0 : decode prog_17_method_1_code 0 = .ok (.aload_n 0, 1) := by decide +kernel
theorem d4_1 : decode prog_17_method_1_code 1 = .ok (.invokespecial 1, 3) := by decide +kernel
theorem d4_4 : decode prog_17_method_1_code 4 = .ok (.aload_n 0, 1) := by decide +kernel
theorem d4_5 : decode prog_17_method_1_code 5 = .ok (.new 7, 3) := by decide +kernel
theorem d4_8 : decode prog_17_method_1_code 8 = .ok (.dup, 1) := by decide +kernel
theorem d4_9 : decode prog_17_method_1_code 9 = .ok (.invokespecial 9, 3) := by decide +kernel
theorem d4_12 : decode prog_17_method_1_code 12 = .ok (.putfield 10, 3) := by decide +kernel
theorem d4_15 : decode prog_17_method_1_code 15 = .ok (.aload_n 0, 1) := by decide +kernel
theorem d4_16 : decode prog_17_method_1_code 16 = .ok (.aload_n 1, 1) := by decide +kernel
theorem d4_17 : decode prog_17_method_1_code 17 = .ok (.invokevirtual 16, 3) := by decide +kernel
theorem d4_20 : decode prog_17_method_1_code 20 = .ok (.putfield 22, 3) := by decide +kernel
theorem d4_23 : decode prog_17_method_1_code 23 = .ok (.aload_n 0, 1) := by decide +kernel
theorem d4_24 : decode prog_17_method_1_code 24 = .ok (.getstatic 25, 3) := by decide +kernel
theorem d4_27 : decode prog_17_method_1_code 27 = .ok (.aload_n 1, 1) := by decide +kernel
theorem d4_28 : decode prog_17_method_1_code 28 = .ok (.invokevirtual 31, 3) := by decide +kernel
theorem d4_31 : decode prog_17_method_1_code 31 = .ok (.i2l, 1) := by decide +kernel
theorem d4_32 : decode prog_17_method_1_code 32 = .ok (.invokevirtual 34, 3) := by decide +kernel
theorem d4_35 : decode prog_17_method_1_code 35 = .ok (.putfield 38, 3) := by decide +kernel
theorem d4_38 : decode prog_17_method_1_code 38 = .ok (.aload_n 0, 1) := by decide +kernel
theorem d4_39 : decode prog_17_method_1_code 39 = .ok (.getstatic 25, 3) := by decide +kernel
theorem d4_42 : decode prog_17_method_1_code 42 = .ok (.aload_n 1, 1) := by decide +kernel
theorem d4_43 : decode prog_17_method_1_code 43 = .ok (.invokevirtual 42, 3) := by decide +kernel
theorem d4_46 : decode prog_17_method_1_code 46 = .ok (.i2l, 1) := by decide +kernel
theorem d4_47 : decode prog_17_method_1_code 47 = .ok (.invokevirtual 34, 3) := by decide +kernel
theorem d4_50 : decode prog_17_method_1_code 50 = .ok (.putfield 45, 3) := by decide +kernel
theorem d4_53 : decode prog_17_method_1_code 53 = .ok (.return_, 1) := by decide +kernel
theorem ef_4 (m : MethodId) (x0 : Addr) (x1 : Addr) : entryFrame m #[(.ref x0), (.ref x1)] 2 = mkF m 0 #[.val (.ref x0), .val (.ref x1)] [] := by first | (simp [entryFrame, mkF, argsToLocals, Value.category]; done) | rfl
theorem pn_com_example_gated_chorus_gatedchorus_limit_Kicks : plainName "com/example/gated_chorus/gatedchorus/limit/Kicks" = true := by first | (simp [plainName, overriddenIn]; done) | decide +kernel
def Q_4 (Z : State) (a1 : Addr) (a2 : Addr) (b1 b2 b3 : Int32) (tu : Addr) (h0 : Heap) (n0 : Nat) (v : Option Value) (h : Heap) (L : List Loc) : Prop := v = none ∧ Fr n0 L ∧ Keep h0 h [a1] ∧ Exa Z h a1 "com/example/gated_chorus/gatedchorus/limit/Kicks" ∧ Fld Z h a1 "com/example/gated_chorus/gatedchorus/limit/Kicks" "kicks" "I" (.int b1) ∧ Fld Z h a1 "com/example/gated_chorus/gatedchorus/limit/Kicks" "forNanos" "J" (.long (b3.toInt64 * (1000000 : Int64))) ∧ Fld Z h a1 "com/example/gated_chorus/gatedchorus/limit/Kicks" "banned" "Z" (.int (0 : Int32)) ∧ Fld Z h a1 "com/example/gated_chorus/gatedchorus/limit/Kicks" "bannedUntil" "J" (.long (0 : Int64)) ∧ ∃ (d ea : Addr) (kk : ClassId), h0.size ≤ d ∧ h0.size ≤ ea ∧ d ≠ ea ∧ Fld Z h a1 "com/example/gated_chorus/gatedchorus/limit/Kicks" "times" "Ljava/util/Deque;" (.ref d) ∧ Exa Z h d "java/util/ArrayDeque" ∧ Fld Z h d "java/util/ArrayDeque" "elements" "[Ljava/lang/Object;" (.ref ea) ∧ Fld Z h d "java/util/ArrayDeque" "head" "I" (.int (0 : Int32)) ∧ Fld Z h d "java/util/ArrayDeque" "tail" "I" (.int (0 : Int32)) ∧ Arv Z h ea kk (.object "java/lang/Object") (17 : Int32) [.null] .null ∧ Ovr Z kk "java/lang/Object"
set_option maxRecDepth 65536 in
set_option maxHeartbeats 40000000 in
theorem rm_4 (l : Launch) (Z : State) (a0 : Array Value) (hw : ∀ d ∈ tables_1, d.before a0 Z = true) (ws : List Jvm.Cond) (a1 : Addr) (a2 : Addr) (b1 b2 b3 : Int32) (tu : Addr) (h0 : Heap) (n0 : Nat) (Z0 : n0 ≤ h0.size) (E_a1 : Exa Z h0 a1 "com/example/gated_chorus/gatedchorus/limit/Kicks") (F_kicks : Fld Z h0 a1 "com/example/gated_chorus/gatedchorus/limit/Kicks" "kicks" "I" (.int (0 : Int32))) (F_withinNanos : Fld Z h0 a1 "com/example/gated_chorus/gatedchorus/limit/Kicks" "withinNanos" "J" (.long (0 : Int64))) (F_forNanos : Fld Z h0 a1 "com/example/gated_chorus/gatedchorus/limit/Kicks" "forNanos" "J" (.long (0 : Int64))) (F_times : Fld Z h0 a1 "com/example/gated_chorus/gatedchorus/limit/Kicks" "times" "Ljava/util/Deque;" .null) (F_banned : Fld Z h0 a1 "com/example/gated_chorus/gatedchorus/limit/Kicks" "banned" "Z" (.int (0 : Int32))) (F_bannedUntil : Fld Z h0 a1 "com/example/gated_chorus/gatedchorus/limit/Kicks" "bannedUntil" "J" (.long (0 : Int64))) (g_a1 : n0 ≤ a1) (E_a2 : Exa Z h0 a2 "com/example/gated_chorus/gatedchorus/limit/Ban") (B_kicks : Fld Z h0 a2 "com/example/gated_chorus/gatedchorus/limit/Ban" "kicks" "I" (.int b1)) (B_withinMs : Fld Z h0 a2 "com/example/gated_chorus/gatedchorus/limit/Ban" "withinMs" "I" (.int b2)) (B_forMs : Fld Z h0 a2 "com/example/gated_chorus/gatedchorus/limit/Ban" "forMs" "I" (.int b3)) (S_ms : Sta Z h0 "java/util/concurrent/TimeUnit" "MILLISECONDS" "Ljava/util/concurrent/TimeUnit;" (.ref tu)) (E_tu : Exa Z h0 tu "java/util/concurrent/TimeUnit") (F_s : Fld Z h0 tu "java/util/concurrent/TimeUnit" "scale" "J" (.long (1000000 : Int64))) (F_m : Fld Z h0 tu "java/util/concurrent/TimeUnit" "maxNanos" "J" (.long (9223372036854 : Int64))) :
    MetFree l (⟨"com/example/gated_chorus/gatedchorus/limit/Kicks", "<init>", "(Lcom/example/gated_chorus/gatedchorus/limit/Ban;)V"⟩ : MethodName) (head1 (Jvm.Cond.code (⟨"com/example/gated_chorus/gatedchorus/limit/Kicks", "<init>", "(Lcom/example/gated_chorus/gatedchorus/limit/Ban;)V"⟩ : MethodName) prog_17_method_1_code 2 none :: ws) ({ frames := 3, cells := 2, slots := 20, locals := 38 } : Room)) (fun a U => a = #[(.ref a1), (.ref a2)] ∧ Z.Warmed39 U.vm ∧ U.heap = h0) (fun _ _ _ _ _ => True) (fun _ U o U' => ∃ v L, o = .returned v ∧ Q_4 Z a1 a2 b1 b2 b3 tu h0 n0 v U'.heap L ∧ FrameEnd U o U' L ({ frames := 3, cells := 2, slots := 20, locals := 38 } : Room).cells ({ frames := 3, cells := 2, slots := 20, locals := 38 } : Room).slots) := by
  refine MetFree.of_bodySF (plainFor_of_name pn_com_example_gated_chorus_gatedchorus_limit_Kicks) hisR ?_
  intro p e s m args below meth c s₁ Bd hml0 hP hK
  obtain ⟨rfl, hZ, hh⟩ := hP
  have hx := Bd.exec
  have hby := Bd.bytes
  have hml : c.maxLocals = 2 := hml0
  have hown : s.vm.findClass "com/example/gated_chorus/gatedchorus/limit/Kicks" = some m.cls := findClass_of_methodNamed Bd.named
  have hnm := (name_of_methodNamed Bd.named Bd.method).1
  have X0 : Stand p l e ({ frames := 3, cells := 2, slots := 20, locals := 38 } : Room) s m #[(.ref a1), (.ref a2)] below meth c s₁ [] 0 0 := Stand.of_body Bd
  have e0 : s₁.heap = h0 := by rw [← hh, Bd.state]; rfl
  have N0 := Fr.nil n0
  have pw0 : ∀ t, Steps p.tables e below (s₁.setTop (mkF m 0 #[.val (.ref a1), .val (.ref a2)] [])) t → Steps p.tables e below (s₁.setTop (entryFrame m #[(.ref a1), (.ref a2)] 2)) t := fun t k => castTop (ef_4 m a1 a2) k
  have K0 : Keep h0 h0 [a1] := Keep.refl h0 [a1]
  obtain ⟨T16, X16, e16, st16⟩ := initO X0 hx hZ hown (hw _ (List.mem_of_getElem? (i := 26) rfl)) (hw _ (List.mem_of_getElem? (i := 15) rfl)) (hw _ (List.mem_of_getElem? (i := 16) rfl)) e0 (g := (mkF m 1 #[.val (.ref a1), .val (.ref a2)] [(.ref a1)])) rfl (by rw [hml]; rfl) rfl (hb hby d4_1) (by decide) (W := 0) (by show 2 * 0 + _ ≤ _; exact Nat.le_of_eq rfl) (by decide)
  obtain ⟨T17, h17, X17, e17, E17, A17, D17, -, st17⟩ := newO X16 hx hZ hown (hw _ (List.mem_of_getElem? (i := 27) rfl)) (hw _ (List.mem_of_getElem? (i := 28) rfl)) (hw _ (List.mem_of_getElem? (i := 29) rfl)) e16 (g := (mkF m 5 #[.val (.ref a1), .val (.ref a2)] [(.ref a1)])) rfl (hb hby d4_5) (by decide) (by decide)
  obtain ⟨b17, g17⟩ : ∃ z, z = h0.size := ⟨_, rfl⟩
  rw [← g17] at A17 D17 st17
  have g_b17 : n0 ≤ b17 := Nat.le_trans Z0 (Nat.le_of_eq g17.symm)
  have sz_b17 : h0.size ≤ b17 := Nat.le_trans K0.1 (Nat.le_of_eq g17.symm)
  have F_elements_b17 : Fld Z h17 b17 "java/util/ArrayDeque" "elements" "[Ljava/lang/Object;" .null := D17 (Or.inl (hw _ (List.mem_of_getElem? (i := 43) rfl))) (ty := (.array (.object "java/lang/Object"))) (by decide)
  have F_head_b17 : Fld Z h17 b17 "java/util/ArrayDeque" "head" "I" (.int (0 : Int32)) := D17 (Or.inl (hw _ (List.mem_of_getElem? (i := 94) rfl))) (ty := .int) (by decide)
  have F_tail_b17 : Fld Z h17 b17 "java/util/ArrayDeque" "tail" "I" (.int (0 : Int32)) := D17 (Or.inl (hw _ (List.mem_of_getElem? (i := 96) rfl))) (ty := .int) (by decide)
  have K17 : Keep h0 h17 [a1] := K0.ext E17
  have Z17 : n0 ≤ h17.size := (Nat.le_trans Z0 E17.1)
  obtain ⟨_, _, ⟨T18, L18, k18, n18⟩, -, X18, ⟨Lc18, hQ18, l18, y18, z18⟩, st18⟩ := X17.specialBack hx (y := (⟨"java/util/ArrayDeque", "<init>", "()V"⟩ : MethodName)) rfl hown (mvT hZ (hw _ (List.mem_of_getElem? (i := 30) rfl))) (mvT hZ (hw _ (List.mem_of_getElem? (i := 31) rfl))) (mvT hZ (hw _ (List.mem_of_getElem? (i := 32) rfl))) (by decide) (backOf (W := 2) (rm_5 l Z a0 hw [] b17 h17 n0 Z17 A17 F_elements_b17 F_head_b17 F_tail_b17 g_b17) hZ (hw _ (List.mem_of_getElem? (i := 32) rfl)) (hw _ (List.mem_of_getElem? (i := 29) rfl)) (by decide) (by decide)) (g := (mkF m 9 #[.val (.ref a1), .val (.ref a2)] [(.ref b17), (.ref b17), (.ref a1)])) rfl (by rw [hml]; rfl) (Steps.refl _) (a := b17) (argsL := []) (rest := [(.ref b17), (.ref a1)]) (lenOf pd___V rfl) rfl (by show 2 * 0 + _ ≤ _; exact Nat.le_of_eq rfl) (hb hby d4_9) (fun _ _ => ⟨rfl, e17, (by decide : 1 + 1 ≤ _), (by decide : 3 + 17 ≤ _)⟩)
  dsimp only [Pt.U, Pt.locs, Pt.cells, Pt.slots] at X18 l18 y18 z18 st18 hQ18
  subst l18 y18 z18
  obtain ⟨rfl, N18q, K18q, ea18, kk18, hea18, E18q, Fe18q, Fh18q, Ft18q, Va18q, Ov18q⟩ := hQ18
  have N18 := Fr.app N0 N18q
  have S18_0 := own_staKeep (Sta.ext E17 S_ms) K18q (nsS (A17.nostat) ns0)
  have K18 : Keep h0 T18.heap [a1] := K17.trans K18q (allS (P := fun x => x ∈ [a1] ∨ h0.size ≤ x) (Or.inr sz_b17) all0)
  have Z18 : n0 ≤ T18.heap.size := (Nat.le_trans Z17 K18q.1)
  have hde : b17 ≠ ea18 := Nat.ne_of_lt (Nat.lt_of_lt_of_le (A17).lt hea18)
  have sz_ea18 : h0.size ≤ ea18 := Nat.le_trans K17.1 hea18
  have hae : a1 ≠ ea18 := Nat.ne_of_lt (Nat.lt_of_lt_of_le E_a1.lt sz_ea18)
  obtain ⟨T19, h19, X19, e19, W19, st19⟩ := putF X18 hx hZ hown (host := "") (Or.inl (hw _ (List.mem_of_getElem? (i := 44) rfl))) Via.refl rfl ((F_times.ext E17).keep K18q (ninS (Nat.ne_of_lt (Nat.lt_of_lt_of_le E_a1.lt (Nat.le_of_eq g17.symm))) nin0)) ((E_a1.ext E17).keep K18q) (Or.inr ⟨(hw _ (List.mem_of_getElem? (i := 45) rfl)), rfl, hnm⟩) (hw _ (List.mem_of_getElem? (i := 6) rfl)) (ty := (.object "java/util/Deque")) (by decide) rfl rfl (g := (mkF m 12 #[.val (.ref a1), .val (.ref a2)] [(.ref b17), (.ref a1)])) rfl rfl (hb hby d4_12)
  have Fw19 := ((F_times.ext E17).keep K18q (ninS (Nat.ne_of_lt (Nat.lt_of_lt_of_le E_a1.lt (Nat.le_of_eq g17.symm))) nin0)).same W19
  have K19 : Keep h0 h19 [a1] := K18.wr W19 (Or.inl (List.mem_of_getElem? (i := 0) rfl))
  have N19 := Fr.snoc X19 N18 g_a1
  have Z19 : n0 ≤ h19.size := (Nat.le_trans Z18 (Nat.le_of_eq (Wr.size W19).symm))
  obtain ⟨cq20, kq20, q20a, q20b, q20c⟩ := isOf hZ e19 (((E_a2.ext E17).keep K18q).wr W19)
  obtain ⟨_, _, ⟨T20, L20, k20, n20⟩, -, X20, ⟨Lc20, hQ20, l20, y20, z20⟩, st20⟩ := X19.virtualBack hx (y := (⟨"com/example/gated_chorus/gatedchorus/limit/Ban", "kicks", "()I"⟩ : MethodName)) (z := (⟨"com/example/gated_chorus/gatedchorus/limit/Ban", "kicks", "()I"⟩ : MethodName)) hown (mvT hZ (hw _ (List.mem_of_getElem? (i := 46) rfl))) (mvT hZ (hw _ (List.mem_of_getElem? (i := 47) rfl))) (notFace_of_selects (args := #[]) (mvT hZ (hw _ (List.mem_of_getElem? (i := 49) rfl)))) (mvT hZ (hw _ (List.mem_of_getElem? (i := 49) rfl))) (mvT hZ (hw _ (List.mem_of_getElem? (i := 48) rfl))) (by decide) (backOf (W := 1) (rm_7 l Z a0 hw [] a2 b1 h19 n0 Z19 (((B_kicks.ext E17).keep K18q (ninS (Nat.ne_of_lt (Nat.lt_of_lt_of_le E_a2.lt (Nat.le_of_eq g17.symm))) nin0)).other W19 (Or.inl (ne_exa E_a2 E_a1 (by decide))))) hZ (hw _ (List.mem_of_getElem? (i := 50) rfl)) (hw _ (List.mem_of_getElem? (i := 10) rfl)) (by decide) (by decide)) q20a q20c (g := (mkF m 17 #[.val (.ref a1), .val (.ref a2)] [(.ref a2), (.ref a1)])) rfl (by rw [hml]; rfl) (Steps.refl _) (argsL := []) (rest := [(.ref a1)]) (lenOf pd___I rfl) rfl (by show 2 * 0 + _ ≤ _; exact Nat.le_of_eq rfl) (hb hby d4_17) (fun _ _ => ⟨rfl, e19, (by decide : 2 + 0 ≤ _), (by decide : 20 + 0 ≤ _)⟩)
  dsimp only [Pt.U, Pt.locs, Pt.cells, Pt.slots] at X20 l20 y20 z20 st20 hQ20
  subst l20 y20 z20
  obtain ⟨rfl, N20q, e20q⟩ := hQ20
  have N20 := Fr.app N19 N20q
  obtain ⟨T21, h21, X21, e21, W21, st21⟩ := putF X20 hx hZ hown (host := "") (Or.inl (hw _ (List.mem_of_getElem? (i := 51) rfl))) Via.refl e20q (((F_kicks.ext E17).keep K18q (ninS (Nat.ne_of_lt (Nat.lt_of_lt_of_le E_a1.lt (Nat.le_of_eq g17.symm))) nin0)).other W19 (Or.inr (slot_ne (Or.inr (hw _ (List.mem_of_getElem? (i := 52) rfl))) (Or.inr (hw _ (List.mem_of_getElem? (i := 45) rfl))) (by decide) (t := .int) (t' := (.object "java/util/Deque")) (by decide) (by decide)))) (((E_a1.ext E17).keep K18q).wr W19) (Or.inr ⟨(hw _ (List.mem_of_getElem? (i := 52) rfl)), rfl, hnm⟩) (hw _ (List.mem_of_getElem? (i := 6) rfl)) (ty := .int) (by decide) rfl rfl (g := (mkF m 20 #[.val (.ref a1), .val (.ref a2)] [(.int b1), (.ref a1)])) rfl rfl (hb hby d4_20)
  have Fw21 := (((F_kicks.ext E17).keep K18q (ninS (Nat.ne_of_lt (Nat.lt_of_lt_of_le E_a1.lt (Nat.le_of_eq g17.symm))) nin0)).other W19 (Or.inr (slot_ne (Or.inr (hw _ (List.mem_of_getElem? (i := 52) rfl))) (Or.inr (hw _ (List.mem_of_getElem? (i := 45) rfl))) (by decide) (t := .int) (t' := (.object "java/util/Deque")) (by decide) (by decide)))).same W21
  have K21 : Keep h0 h21 [a1] := K19.wr W21 (Or.inl (List.mem_of_getElem? (i := 0) rfl))
  have N21 := Fr.snoc X21 N20 g_a1
  have Z21 : n0 ≤ h21.size := (Nat.le_trans Z19 (Nat.le_of_eq (Wr.size W21).symm))
  obtain ⟨T22, X22, e22, st22⟩ := getS2 X21 hx hZ hown (host := "") (Or.inl (hw _ (List.mem_of_getElem? (i := 53) rfl))) Via.refl e21 (Sta.wr W21 (Sta.wr W19 S18_0)) (g := (mkF m 24 #[.val (.ref a1), .val (.ref a2)] [(.ref a1)])) rfl (hb hby d4_24)
  obtain ⟨cq23, kq23, q23a, q23b, q23c⟩ := isOf hZ e22 ((((E_a2.ext E17).keep K18q).wr W19).wr W21)
  obtain ⟨_, _, ⟨T23, L23, k23, n23⟩, -, X23, ⟨Lc23, hQ23, l23, y23, z23⟩, st23⟩ := X22.virtualBack hx (y := (⟨"com/example/gated_chorus/gatedchorus/limit/Ban", "withinMs", "()I"⟩ : MethodName)) (z := (⟨"com/example/gated_chorus/gatedchorus/limit/Ban", "withinMs", "()I"⟩ : MethodName)) hown (mvT hZ (hw _ (List.mem_of_getElem? (i := 55) rfl))) (mvT hZ (hw _ (List.mem_of_getElem? (i := 56) rfl))) (notFace_of_selects (args := #[]) (mvT hZ (hw _ (List.mem_of_getElem? (i := 58) rfl)))) (mvT hZ (hw _ (List.mem_of_getElem? (i := 58) rfl))) (mvT hZ (hw _ (List.mem_of_getElem? (i := 57) rfl))) (by decide) (backOf (W := 2) (rm_8 l Z a0 hw [] a2 b2 h21 n0 Z21 ((((B_withinMs.ext E17).keep K18q (ninS (Nat.ne_of_lt (Nat.lt_of_lt_of_le E_a2.lt (Nat.le_of_eq g17.symm))) nin0)).other W19 (Or.inl (ne_exa E_a2 E_a1 (by decide)))).other W21 (Or.inl (ne_exa E_a2 E_a1 (by decide))))) hZ (hw _ (List.mem_of_getElem? (i := 59) rfl)) (hw _ (List.mem_of_getElem? (i := 10) rfl)) (by decide) (by decide)) q23a q23c (g := (mkF m 28 #[.val (.ref a1), .val (.ref a2)] [(.ref a2), (.ref tu), (.ref a1)])) rfl (by rw [hml]; rfl) (Steps.refl _) (argsL := []) (rest := [(.ref tu), (.ref a1)]) (lenOf pd___I rfl) rfl (by show 2 * 0 + _ ≤ _; exact Nat.le_of_eq rfl) (hb hby d4_28) (fun _ _ => ⟨rfl, e22, (by decide : 2 + 0 ≤ _), (by decide : 20 + 0 ≤ _)⟩)
  dsimp only [Pt.U, Pt.locs, Pt.cells, Pt.slots] at X23 l23 y23 z23 st23 hQ23
  subst l23 y23 z23
  obtain ⟨rfl, N23q, e23q⟩ := hQ23
  have N23 := Fr.app N21 N23q
  obtain ⟨cq24, kq24, q24a, q24b, q24c⟩ := isOf hZ e23q ((((E_tu.ext E17).keep K18q).wr W19).wr W21)
  obtain ⟨_, _, ⟨T24, L24, k24, n24⟩, -, X24, ⟨Lc24, hQ24, l24, y24, z24⟩, st24⟩ := X23.virtualBack hx (y := (⟨"java/util/concurrent/TimeUnit", "toNanos", "(J)J"⟩ : MethodName)) (z := (⟨"java/util/concurrent/TimeUnit", "toNanos", "(J)J"⟩ : MethodName)) hown (mvT hZ (hw _ (List.mem_of_getElem? (i := 60) rfl))) (mvT hZ (hw _ (List.mem_of_getElem? (i := 61) rfl))) (notFace_of_selects (args := #[]) (mvT hZ (hw _ (List.mem_of_getElem? (i := 63) rfl)))) (mvT hZ (hw _ (List.mem_of_getElem? (i := 63) rfl))) (mvT hZ (hw _ (List.mem_of_getElem? (i := 62) rfl))) (by decide) (backOf (W := 1) (rm_9 l Z a0 hw [] tu (b2.toInt64) h21 n0 Z21 ((((F_s.ext E17).keep K18q (ninS (Nat.ne_of_lt (Nat.lt_of_lt_of_le E_tu.lt (Nat.le_of_eq g17.symm))) nin0)).other W19 (Or.inl (ne_exa E_tu E_a1 (by decide)))).other W21 (Or.inl (ne_exa E_tu E_a1 (by decide)))) ((((F_m.ext E17).keep K18q (ninS (Nat.ne_of_lt (Nat.lt_of_lt_of_le E_tu.lt (Nat.le_of_eq g17.symm))) nin0)).other W19 (Or.inl (ne_exa E_tu E_a1 (by decide)))).other W21 (Or.inl (ne_exa E_tu E_a1 (by decide)))) (own_q1 b2) (own_q2 b2)) hZ (hw _ (List.mem_of_getElem? (i := 64) rfl)) (hw _ (List.mem_of_getElem? (i := 54) rfl)) (by decide) (by decide)) q24a q24c (g := (mkF m 32 #[.val (.ref a1), .val (.ref a2)] [(.long (b2.toInt64)), (.ref tu), (.ref a1)])) rfl (by rw [hml]; rfl) (Steps.refl _) (argsL := [(.long (b2.toInt64))]) (rest := [(.ref a1)]) (lenOf pd__J_J rfl) rfl (by show 2 * 0 + _ ≤ _; exact Nat.le_of_eq rfl) (hb hby d4_32) (fun _ _ => ⟨rfl, e23q, (by decide : 2 + 0 ≤ _), (by decide : 20 + 0 ≤ _)⟩)
  dsimp only [Pt.U, Pt.locs, Pt.cells, Pt.slots] at X24 l24 y24 z24 st24 hQ24
  subst l24 y24 z24
  obtain ⟨rfl, N24q, e24q⟩ := hQ24
  have N24 := Fr.app N23 N24q
  obtain ⟨T25, h25, X25, e25, W25, st25⟩ := putF X24 hx hZ hown (host := "") (Or.inl (hw _ (List.mem_of_getElem? (i := 69) rfl))) Via.refl e24q ((((F_withinNanos.ext E17).keep K18q (ninS (Nat.ne_of_lt (Nat.lt_of_lt_of_le E_a1.lt (Nat.le_of_eq g17.symm))) nin0)).other W19 (Or.inr (slot_ne (Or.inr (hw _ (List.mem_of_getElem? (i := 70) rfl))) (Or.inr (hw _ (List.mem_of_getElem? (i := 45) rfl))) (by decide) (t := .long) (t' := (.object "java/util/Deque")) (by decide) (by decide)))).other W21 (Or.inr (slot_ne (Or.inr (hw _ (List.mem_of_getElem? (i := 70) rfl))) (Or.inr (hw _ (List.mem_of_getElem? (i := 52) rfl))) (by decide) (t := .long) (t' := .int) (by decide) (by decide)))) ((((E_a1.ext E17).keep K18q).wr W19).wr W21) (Or.inr ⟨(hw _ (List.mem_of_getElem? (i := 70) rfl)), rfl, hnm⟩) (hw _ (List.mem_of_getElem? (i := 6) rfl)) (ty := .long) (by decide) rfl rfl (g := (mkF m 35 #[.val (.ref a1), .val (.ref a2)] [(.long ((b2.toInt64) * (1000000 : Int64))), (.ref a1)])) rfl rfl (hb hby d4_35)
  have Fw25 := ((((F_withinNanos.ext E17).keep K18q (ninS (Nat.ne_of_lt (Nat.lt_of_lt_of_le E_a1.lt (Nat.le_of_eq g17.symm))) nin0)).other W19 (Or.inr (slot_ne (Or.inr (hw _ (List.mem_of_getElem? (i := 70) rfl))) (Or.inr (hw _ (List.mem_of_getElem? (i := 45) rfl))) (by decide) (t := .long) (t' := (.object "java/util/Deque")) (by decide) (by decide)))).other W21 (Or.inr (slot_ne (Or.inr (hw _ (List.mem_of_getElem? (i := 70) rfl))) (Or.inr (hw _ (List.mem_of_getElem? (i := 52) rfl))) (by decide) (t := .long) (t' := .int) (by decide) (by decide)))).same W25
  have K25 : Keep h0 h25 [a1] := K21.wr W25 (Or.inl (List.mem_of_getElem? (i := 0) rfl))
  have N25 := Fr.snoc X25 N24 g_a1
  have Z25 : n0 ≤ h25.size := (Nat.le_trans Z21 (Nat.le_of_eq (Wr.size W25).symm))
  obtain ⟨T26, X26, e26, st26⟩ := getS2 X25 hx hZ hown (host := "") (Or.inl (hw _ (List.mem_of_getElem? (i := 53) rfl))) Via.refl e25 (Sta.wr W25 (Sta.wr W21 (Sta.wr W19 S18_0))) (g := (mkF m 39 #[.val (.ref a1), .val (.ref a2)] [(.ref a1)])) rfl (hb hby d4_39)
  obtain ⟨cq27, kq27, q27a, q27b, q27c⟩ := isOf hZ e26 (((((E_a2.ext E17).keep K18q).wr W19).wr W21).wr W25)
  obtain ⟨_, _, ⟨T27, L27, k27, n27⟩, -, X27, ⟨Lc27, hQ27, l27, y27, z27⟩, st27⟩ := X26.virtualBack hx (y := (⟨"com/example/gated_chorus/gatedchorus/limit/Ban", "forMs", "()I"⟩ : MethodName)) (z := (⟨"com/example/gated_chorus/gatedchorus/limit/Ban", "forMs", "()I"⟩ : MethodName)) hown (mvT hZ (hw _ (List.mem_of_getElem? (i := 71) rfl))) (mvT hZ (hw _ (List.mem_of_getElem? (i := 72) rfl))) (notFace_of_selects (args := #[]) (mvT hZ (hw _ (List.mem_of_getElem? (i := 74) rfl)))) (mvT hZ (hw _ (List.mem_of_getElem? (i := 74) rfl))) (mvT hZ (hw _ (List.mem_of_getElem? (i := 73) rfl))) (by decide) (backOf (W := 2) (rm_10 l Z a0 hw [] a2 b3 h25 n0 Z25 (((((B_forMs.ext E17).keep K18q (ninS (Nat.ne_of_lt (Nat.lt_of_lt_of_le E_a2.lt (Nat.le_of_eq g17.symm))) nin0)).other W19 (Or.inl (ne_exa E_a2 E_a1 (by decide)))).other W21 (Or.inl (ne_exa E_a2 E_a1 (by decide)))).other W25 (Or.inl (ne_exa E_a2 E_a1 (by decide))))) hZ (hw _ (List.mem_of_getElem? (i := 75) rfl)) (hw _ (List.mem_of_getElem? (i := 10) rfl)) (by decide) (by decide)) q27a q27c (g := (mkF m 43 #[.val (.ref a1), .val (.ref a2)] [(.ref a2), (.ref tu), (.ref a1)])) rfl (by rw [hml]; rfl) (Steps.refl _) (argsL := []) (rest := [(.ref tu), (.ref a1)]) (lenOf pd___I rfl) rfl (by show 2 * 0 + _ ≤ _; exact Nat.le_of_eq rfl) (hb hby d4_43) (fun _ _ => ⟨rfl, e26, (by decide : 2 + 0 ≤ _), (by decide : 20 + 0 ≤ _)⟩)
  dsimp only [Pt.U, Pt.locs, Pt.cells, Pt.slots] at X27 l27 y27 z27 st27 hQ27
  subst l27 y27 z27
  obtain ⟨rfl, N27q, e27q⟩ := hQ27
  have N27 := Fr.app N25 N27q
  obtain ⟨cq28, kq28, q28a, q28b, q28c⟩ := isOf hZ e27q (((((E_tu.ext E17).keep K18q).wr W19).wr W21).wr W25)
  obtain ⟨_, _, ⟨T28, L28, k28, n28⟩, -, X28, ⟨Lc28, hQ28, l28, y28, z28⟩, st28⟩ := X27.virtualBack hx (y := (⟨"java/util/concurrent/TimeUnit", "toNanos", "(J)J"⟩ : MethodName)) (z := (⟨"java/util/concurrent/TimeUnit", "toNanos", "(J)J"⟩ : MethodName)) hown (mvT hZ (hw _ (List.mem_of_getElem? (i := 60) rfl))) (mvT hZ (hw _ (List.mem_of_getElem? (i := 61) rfl))) (notFace_of_selects (args := #[]) (mvT hZ (hw _ (List.mem_of_getElem? (i := 63) rfl)))) (mvT hZ (hw _ (List.mem_of_getElem? (i := 63) rfl))) (mvT hZ (hw _ (List.mem_of_getElem? (i := 62) rfl))) (by decide) (backOf (W := 1) (rm_9 l Z a0 hw [] tu (b3.toInt64) h25 n0 Z25 (((((F_s.ext E17).keep K18q (ninS (Nat.ne_of_lt (Nat.lt_of_lt_of_le E_tu.lt (Nat.le_of_eq g17.symm))) nin0)).other W19 (Or.inl (ne_exa E_tu E_a1 (by decide)))).other W21 (Or.inl (ne_exa E_tu E_a1 (by decide)))).other W25 (Or.inl (ne_exa E_tu E_a1 (by decide)))) (((((F_m.ext E17).keep K18q (ninS (Nat.ne_of_lt (Nat.lt_of_lt_of_le E_tu.lt (Nat.le_of_eq g17.symm))) nin0)).other W19 (Or.inl (ne_exa E_tu E_a1 (by decide)))).other W21 (Or.inl (ne_exa E_tu E_a1 (by decide)))).other W25 (Or.inl (ne_exa E_tu E_a1 (by decide)))) (own_q1 b3) (own_q2 b3)) hZ (hw _ (List.mem_of_getElem? (i := 64) rfl)) (hw _ (List.mem_of_getElem? (i := 54) rfl)) (by decide) (by decide)) q28a q28c (g := (mkF m 47 #[.val (.ref a1), .val (.ref a2)] [(.long (b3.toInt64)), (.ref tu), (.ref a1)])) rfl (by rw [hml]; rfl) (Steps.refl _) (argsL := [(.long (b3.toInt64))]) (rest := [(.ref a1)]) (lenOf pd__J_J rfl) rfl (by show 2 * 0 + _ ≤ _; exact Nat.le_of_eq rfl) (hb hby d4_47) (fun _ _ => ⟨rfl, e27q, (by decide : 2 + 0 ≤ _), (by decide : 20 + 0 ≤ _)⟩)
  dsimp only [Pt.U, Pt.locs, Pt.cells, Pt.slots] at X28 l28 y28 z28 st28 hQ28
  subst l28 y28 z28
  obtain ⟨rfl, N28q, e28q⟩ := hQ28
  have N28 := Fr.app N27 N28q
  obtain ⟨T29, h29, X29, e29, W29, st29⟩ := putF X28 hx hZ hown (host := "") (Or.inl (hw _ (List.mem_of_getElem? (i := 76) rfl))) Via.refl e28q (((((F_forNanos.ext E17).keep K18q (ninS (Nat.ne_of_lt (Nat.lt_of_lt_of_le E_a1.lt (Nat.le_of_eq g17.symm))) nin0)).other W19 (Or.inr (slot_ne (Or.inr (hw _ (List.mem_of_getElem? (i := 77) rfl))) (Or.inr (hw _ (List.mem_of_getElem? (i := 45) rfl))) (by decide) (t := .long) (t' := (.object "java/util/Deque")) (by decide) (by decide)))).other W21 (Or.inr (slot_ne (Or.inr (hw _ (List.mem_of_getElem? (i := 77) rfl))) (Or.inr (hw _ (List.mem_of_getElem? (i := 52) rfl))) (by decide) (t := .long) (t' := .int) (by decide) (by decide)))).other W25 (Or.inr (slot_ne (Or.inr (hw _ (List.mem_of_getElem? (i := 77) rfl))) (Or.inr (hw _ (List.mem_of_getElem? (i := 70) rfl))) (by decide) (t := .long) (t' := .long) (by decide) (by decide)))) (((((E_a1.ext E17).keep K18q).wr W19).wr W21).wr W25) (Or.inr ⟨(hw _ (List.mem_of_getElem? (i := 77) rfl)), rfl, hnm⟩) (hw _ (List.mem_of_getElem? (i := 6) rfl)) (ty := .long) (by decide) rfl rfl (g := (mkF m 50 #[.val (.ref a1), .val (.ref a2)] [(.long ((b3.toInt64) * (1000000 : Int64))), (.ref a1)])) rfl rfl (hb hby d4_50)
  have Fw29 := (((((F_forNanos.ext E17).keep K18q (ninS (Nat.ne_of_lt (Nat.lt_of_lt_of_le E_a1.lt (Nat.le_of_eq g17.symm))) nin0)).other W19 (Or.inr (slot_ne (Or.inr (hw _ (List.mem_of_getElem? (i := 77) rfl))) (Or.inr (hw _ (List.mem_of_getElem? (i := 45) rfl))) (by decide) (t := .long) (t' := (.object "java/util/Deque")) (by decide) (by decide)))).other W21 (Or.inr (slot_ne (Or.inr (hw _ (List.mem_of_getElem? (i := 77) rfl))) (Or.inr (hw _ (List.mem_of_getElem? (i := 52) rfl))) (by decide) (t := .long) (t' := .int) (by decide) (by decide)))).other W25 (Or.inr (slot_ne (Or.inr (hw _ (List.mem_of_getElem? (i := 77) rfl))) (Or.inr (hw _ (List.mem_of_getElem? (i := 70) rfl))) (by decide) (t := .long) (t' := .long) (by decide) (by decide)))).same W29
  have K29 : Keep h0 h29 [a1] := K25.wr W29 (Or.inl (List.mem_of_getElem? (i := 0) rfl))
  have N29 := Fr.snoc X29 N28 g_a1
  have Z29 : n0 ≤ h29.size := (Nat.le_trans Z25 (Nat.le_of_eq (Wr.size W29).symm))
  obtain ⟨fs, hr, hrun, hended, hW, hsame⟩ := X29.leave (v := none) (fun _ => rfl)
  refine ⟨_, _, pw0 _ ?_, hrun, hended, _, _, rfl, ?_, ⟨_, rfl⟩, hW, hsame.mono (by decide) (by decide)⟩
  · skip
    refine XS.aloadN X0.here hx rfl (hb hby d4_0) rfl rfl ?_
    show Steps p.tables e below (s₁.setTop (mkF m 1 #[.val (.ref a1), .val (.ref a2)] [(.ref a1)])) _
    refine st16 _ ?_
    show Steps p.tables e below (T16.setTop (mkF m 4 #[.val (.ref a1), .val (.ref a2)] [])) _
    refine XS.aloadN X16.here hx rfl (hb hby d4_4) rfl rfl ?_
    show Steps p.tables e below (T16.setTop (mkF m 5 #[.val (.ref a1), .val (.ref a2)] [(.ref a1)])) _
    refine st17 _ ?_
    show Steps p.tables e below (T17.setTop (mkF m 8 #[.val (.ref a1), .val (.ref a2)] [(.ref b17), (.ref a1)])) _
    refine XS.dup X17.here hx rfl (hb hby d4_8) rfl rfl ?_
    show Steps p.tables e below (T17.setTop (mkF m 9 #[.val (.ref a1), .val (.ref a2)] [(.ref b17), (.ref b17), (.ref a1)])) _
    refine st18.trans ?_
    show Steps p.tables e below (T18.setTop (mkF m 12 #[.val (.ref a1), .val (.ref a2)] [(.ref b17), (.ref a1)])) _
    refine st19 _ ?_
    show Steps p.tables e below (T19.setTop (mkF m 15 #[.val (.ref a1), .val (.ref a2)] [])) _
    refine XS.aloadN X19.here hx rfl (hb hby d4_15) rfl rfl ?_
    show Steps p.tables e below (T19.setTop (mkF m 16 #[.val (.ref a1), .val (.ref a2)] [(.ref a1)])) _
    refine XS.aloadN X19.here hx rfl (hb hby d4_16) rfl rfl ?_
    show Steps p.tables e below (T19.setTop (mkF m 17 #[.val (.ref a1), .val (.ref a2)] [(.ref a2), (.ref a1)])) _
    refine st20.trans ?_
    show Steps p.tables e below (T20.setTop (mkF m 20 #[.val (.ref a1), .val (.ref a2)] [(.int b1), (.ref a1)])) _
    refine st21 _ ?_
    show Steps p.tables e below (T21.setTop (mkF m 23 #[.val (.ref a1), .val (.ref a2)] [])) _
    refine XS.aloadN X21.here hx rfl (hb hby d4_23) rfl rfl ?_
    show Steps p.tables e below (T21.setTop (mkF m 24 #[.val (.ref a1), .val (.ref a2)] [(.ref a1)])) _
    refine st22 _ ?_
    show Steps p.tables e below (T22.setTop (mkF m 27 #[.val (.ref a1), .val (.ref a2)] [(.ref tu), (.ref a1)])) _
    refine XS.aloadN X22.here hx rfl (hb hby d4_27) rfl rfl ?_
    show Steps p.tables e below (T22.setTop (mkF m 28 #[.val (.ref a1), .val (.ref a2)] [(.ref a2), (.ref tu), (.ref a1)])) _
    refine st23.trans ?_
    show Steps p.tables e below (T23.setTop (mkF m 31 #[.val (.ref a1), .val (.ref a2)] [(.int b2), (.ref tu), (.ref a1)])) _
    refine XS.i2l X23.here hx rfl (hb hby d4_31) rfl ?_
    show Steps p.tables e below (T23.setTop (mkF m 32 #[.val (.ref a1), .val (.ref a2)] [(.long (b2.toInt64)), (.ref tu), (.ref a1)])) _
    refine st24.trans ?_
    show Steps p.tables e below (T24.setTop (mkF m 35 #[.val (.ref a1), .val (.ref a2)] [(.long ((b2.toInt64) * (1000000 : Int64))), (.ref a1)])) _
    refine st25 _ ?_
    show Steps p.tables e below (T25.setTop (mkF m 38 #[.val (.ref a1), .val (.ref a2)] [])) _
    refine XS.aloadN X25.here hx rfl (hb hby d4_38) rfl rfl ?_
    show Steps p.tables e below (T25.setTop (mkF m 39 #[.val (.ref a1), .val (.ref a2)] [(.ref a1)])) _
    refine st26 _ ?_
    show Steps p.tables e below (T26.setTop (mkF m 42 #[.val (.ref a1), .val (.ref a2)] [(.ref tu), (.ref a1)])) _
    refine XS.aloadN X26.here hx rfl (hb hby d4_42) rfl rfl ?_
    show Steps p.tables e below (T26.setTop (mkF m 43 #[.val (.ref a1), .val (.ref a2)] [(.ref a2), (.ref tu), (.ref a1)])) _
    refine st27.trans ?_
    show Steps p.tables e below (T27.setTop (mkF m 46 #[.val (.ref a1), .val (.ref a2)] [(.int b3), (.ref tu), (.ref a1)])) _
    refine XS.i2l X27.here hx rfl (hb hby d4_46) rfl ?_
    show Steps p.tables e below (T27.setTop (mkF m 47 #[.val (.ref a1), .val (.ref a2)] [(.long (b3.toInt64)), (.ref tu), (.ref a1)])) _
    refine st28.trans ?_
    show Steps p.tables e below (T28.setTop (mkF m 50 #[.val (.ref a1), .val (.ref a2)] [(.long ((b3.toInt64) * (1000000 : Int64))), (.ref a1)])) _
    refine st29 _ ?_
    show Steps p.tables e below (T29.setTop (mkF m 53 #[.val (.ref a1), .val (.ref a2)] [])) _
    exact X29.returnOut hx Bd.returns (hb hby d4_53) hr
  · show Q_4 Z a1 a2 b1 b2 b3 tu h0 n0 _ T29.heap _
    rw [e29]
    exact ⟨rfl, N29, K29, ((((((E_a1.ext E17).keep K18q).wr W19).wr W21).wr W25).wr W29), ((Fw21.other W25 (Or.inr (slot_ne (Or.inr (hw _ (List.mem_of_getElem? (i := 52) rfl))) (Or.inr (hw _ (List.mem_of_getElem? (i := 70) rfl))) (by decide) (t := .int) (t' := .long) (by decide) (by decide)))).other W29 (Or.inr (slot_ne (Or.inr (hw _ (List.mem_of_getElem? (i := 52) rfl))) (Or.inr (hw _ (List.mem_of_getElem? (i := 77) rfl))) (by decide) (t := .int) (t' := .long) (by decide) (by decide)))), Fw29, ((((((F_banned.ext E17).keep K18q (ninS (Nat.ne_of_lt (Nat.lt_of_lt_of_le E_a1.lt (Nat.le_of_eq g17.symm))) nin0)).other W19 (Or.inr (slot_ne (Or.inl (hw _ (List.mem_of_getElem? (i := 140) rfl))) (Or.inr (hw _ (List.mem_of_getElem? (i := 45) rfl))) (by decide) (t := .boolean) (t' := (.object "java/util/Deque")) (by decide) (by decide)))).other W21 (Or.inr (slot_ne (Or.inl (hw _ (List.mem_of_getElem? (i := 140) rfl))) (Or.inr (hw _ (List.mem_of_getElem? (i := 52) rfl))) (by decide) (t := .boolean) (t' := .int) (by decide) (by decide)))).other W25 (Or.inr (slot_ne (Or.inl (hw _ (List.mem_of_getElem? (i := 140) rfl))) (Or.inr (hw _ (List.mem_of_getElem? (i := 70) rfl))) (by decide) (t := .boolean) (t' := .long) (by decide) (by decide)))).other W29 (Or.inr (slot_ne (Or.inl (hw _ (List.mem_of_getElem? (i := 140) rfl))) (Or.inr (hw _ (List.mem_of_getElem? (i := 77) rfl))) (by decide) (t := .boolean) (t' := .long) (by decide) (by decide)))), ((((((F_bannedUntil.ext E17).keep K18q (ninS (Nat.ne_of_lt (Nat.lt_of_lt_of_le E_a1.lt (Nat.le_of_eq g17.symm))) nin0)).other W19 (Or.inr (slot_ne (Or.inl (hw _ (List.mem_of_getElem? (i := 142) rfl))) (Or.inr (hw _ (List.mem_of_getElem? (i := 45) rfl))) (by decide) (t := .long) (t' := (.object "java/util/Deque")) (by decide) (by decide)))).other W21 (Or.inr (slot_ne (Or.inl (hw _ (List.mem_of_getElem? (i := 142) rfl))) (Or.inr (hw _ (List.mem_of_getElem? (i := 52) rfl))) (by decide) (t := .long) (t' := .int) (by decide) (by decide)))).other W25 (Or.inr (slot_ne (Or.inl (hw _ (List.mem_of_getElem? (i := 142) rfl))) (Or.inr (hw _ (List.mem_of_getElem? (i := 70) rfl))) (by decide) (t := .long) (t' := .long) (by decide) (by decide)))).other W29 (Or.inr (slot_ne (Or.inl (hw _ (List.mem_of_getElem? (i := 142) rfl))) (Or.inr (hw _ (List.mem_of_getElem? (i := 77) rfl))) (by decide) (t := .long) (t' := .long) (by decide) (by decide)))), b17, ea18, kk18, sz_b17, sz_ea18, hde, (((Fw19.other W21 (Or.inr (slot_ne (Or.inr (hw _ (List.mem_of_getElem? (i := 45) rfl))) (Or.inr (hw _ (List.mem_of_getElem? (i := 52) rfl))) (by decide) (t := (.object "java/util/Deque")) (t' := .int) (by decide) (by decide)))).other W25 (Or.inr (slot_ne (Or.inr (hw _ (List.mem_of_getElem? (i := 45) rfl))) (Or.inr (hw _ (List.mem_of_getElem? (i := 70) rfl))) (by decide) (t := (.object "java/util/Deque")) (t' := .long) (by decide) (by decide)))).other W29 (Or.inr (slot_ne (Or.inr (hw _ (List.mem_of_getElem? (i := 45) rfl))) (Or.inr (hw _ (List.mem_of_getElem? (i := 77) rfl))) (by decide) (t := (.object "java/util/Deque")) (t' := .long) (by decide) (by decide)))), ((((E18q.wr W19).wr W21).wr W25).wr W29), ((((Fe18q.other W19 (Or.inl (Ne.symm (Nat.ne_of_lt (Nat.lt_of_lt_of_le E_a1.lt (Nat.le_of_eq g17.symm)))))).other W21 (Or.inl (Ne.symm (Nat.ne_of_lt (Nat.lt_of_lt_of_le E_a1.lt (Nat.le_of_eq g17.symm)))))).other W25 (Or.inl (Ne.symm (Nat.ne_of_lt (Nat.lt_of_lt_of_le E_a1.lt (Nat.le_of_eq g17.symm)))))).other W29 (Or.inl (Ne.symm (Nat.ne_of_lt (Nat.lt_of_lt_of_le E_a1.lt (Nat.le_of_eq g17.symm)))))), ((((Fh18q.other W19 (Or.inl (Ne.symm (Nat.ne_of_lt (Nat.lt_of_lt_of_le E_a1.lt (Nat.le_of_eq g17.symm)))))).other W21 (Or.inl (Ne.symm (Nat.ne_of_lt (Nat.lt_of_lt_of_le E_a1.lt (Nat.le_of_eq g17.symm)))))).other W25 (Or.inl (Ne.symm (Nat.ne_of_lt (Nat.lt_of_lt_of_le E_a1.lt (Nat.le_of_eq g17.symm)))))).other W29 (Or.inl (Ne.symm (Nat.ne_of_lt (Nat.lt_of_lt_of_le E_a1.lt (Nat.le_of_eq g17.symm)))))), ((((Ft18q.other W19 (Or.inl (Ne.symm (Nat.ne_of_lt (Nat.lt_of_lt_of_le E_a1.lt (Nat.le_of_eq g17.symm)))))).other W21 (Or.inl (Ne.symm (Nat.ne_of_lt (Nat.lt_of_lt_of_le E_a1.lt (Nat.le_of_eq g17.symm)))))).other W25 (Or.inl (Ne.symm (Nat.ne_of_lt (Nat.lt_of_lt_of_le E_a1.lt (Nat.le_of_eq g17.symm)))))).other W29 (Or.inl (Ne.symm (Nat.ne_of_lt (Nat.lt_of_lt_of_le E_a1.lt (Nat.le_of_eq g17.symm)))))), ((((Va18q.other W19 (Ne.symm hae)).other W21 (Ne.symm hae)).other W25 (Ne.symm hae)).other W29 (Ne.symm hae)), Ov18q⟩
theorem d22_0 : decode jdk_18_method_1_code 0 = .ok (.aload_n 0, 1) := by decide +kernel
theorem d22_1 : decode jdk_18_method_1_code 1 = .ok (.invokespecial 1, 3) := by decide +kernel
theorem d22_4 : decode jdk_18_method_1_code 4 = .ok (.return_, 1) := by decide +kernel
theorem ef_22 (m : MethodId) (x0 : Addr) : entryFrame m #[(.ref x0)] 1 = mkF m 0 #[.val (.ref x0)] [] := by first | (simp [entryFrame, mkF, argsToLocals, Value.category]; done) | rfl
theorem pn_java_lang_Number : plainName "java/lang/Number" = true := by first | (simp [plainName, overriddenIn]; done) | decide +kernel
def Q_22 (Z : State) (a1 : Addr) (h0 : Heap) (n0 : Nat) (v : Option Value) (h : Heap) (L : List Loc) : Prop := v = none ∧ Fr n0 L ∧ h = h0
set_option maxRecDepth 65536 in
set_option maxHeartbeats 40000000 in
theorem rm_22 (l : Launch) (Z : State) (a0 : Array Value) (hw : ∀ d ∈ tables_1, d.before a0 Z = true) (ws : List Jvm.Cond) (a1 : Addr) (h0 : Heap) (n0 : Nat) (Z0 : n0 ≤ h0.size)  :
    MetFree l (⟨"java/lang/Number", "<init>", "()V"⟩ : MethodName) (head1 (Jvm.Cond.code (⟨"java/lang/Number", "<init>", "()V"⟩ : MethodName) jdk_18_method_1_code 1 none :: ws) ({ frames := 1, cells := 0, slots := 0, locals := 12 } : Room)) (fun a U => a = #[(.ref a1)] ∧ Z.Warmed39 U.vm ∧ U.heap = h0) (fun _ _ _ _ _ => True) (fun _ U o U' => ∃ v L, o = .returned v ∧ Q_22 Z a1 h0 n0 v U'.heap L ∧ FrameEnd U o U' L ({ frames := 1, cells := 0, slots := 0, locals := 12 } : Room).cells ({ frames := 1, cells := 0, slots := 0, locals := 12 } : Room).slots) := by
  refine MetFree.of_bodySF (plainFor_of_name pn_java_lang_Number) hisR ?_
  intro p e s m args below meth c s₁ Bd hml0 hP hK
  obtain ⟨rfl, hZ, hh⟩ := hP
  have hx := Bd.exec
  have hby := Bd.bytes
  have hml : c.maxLocals = 1 := hml0
  have hown : s.vm.findClass "java/lang/Number" = some m.cls := findClass_of_methodNamed Bd.named
  have hnm := (name_of_methodNamed Bd.named Bd.method).1
  have X0 : Stand p l e ({ frames := 1, cells := 0, slots := 0, locals := 12 } : Room) s m #[(.ref a1)] below meth c s₁ [] 0 0 := Stand.of_body Bd
  have e0 : s₁.heap = h0 := by rw [← hh, Bd.state]; rfl
  have N0 := Fr.nil n0
  have pw0 : ∀ t, Steps p.tables e below (s₁.setTop (mkF m 0 #[.val (.ref a1)] [])) t → Steps p.tables e below (s₁.setTop (entryFrame m #[(.ref a1)] 1)) t := fun t k => castTop (ef_22 m a1) k
  have K0 : Keep h0 h0 [] := Keep.refl h0 []
  obtain ⟨T30, X30, e30, st30⟩ := initO X0 hx hZ hown (hw _ (List.mem_of_getElem? (i := 161) rfl)) (hw _ (List.mem_of_getElem? (i := 15) rfl)) (hw _ (List.mem_of_getElem? (i := 16) rfl)) e0 (g := (mkF m 1 #[.val (.ref a1)] [(.ref a1)])) rfl (by rw [hml]; rfl) rfl (hb hby d22_1) (by decide) (W := 0) (by show 2 * 0 + _ ≤ _; exact Nat.le_of_eq rfl) (by decide)
  obtain ⟨fs, hr, hrun, hended, hW, hsame⟩ := X30.leave (v := none) (fun _ => rfl)
  refine ⟨_, _, pw0 _ ?_, hrun, hended, _, _, rfl, ?_, ⟨_, rfl⟩, hW, hsame.mono (by decide) (by decide)⟩
  · skip
    refine XS.aloadN X0.here hx rfl (hb hby d22_0) rfl rfl ?_
    show Steps p.tables e below (s₁.setTop (mkF m 1 #[.val (.ref a1)] [(.ref a1)])) _
    refine st30 _ ?_
    show Steps p.tables e below (T30.setTop (mkF m 4 #[.val (.ref a1)] [])) _
    exact X30.returnOut hx Bd.returns (hb hby d22_4) hr
  · show Q_22 Z a1 h0 n0 _ T30.heap _
    rw [e30]
    exact ⟨rfl, N0, rfl⟩
theorem d21_0 : decode jdk_35_method_26_code 0 = .ok (.aload_n 0, 1) := by decide +kernel
theorem d21_1 : decode jdk_35_method_26_code 1 = .ok (.invokespecial 270, 3) := by decide +kernel
theorem d21_4 : decode jdk_35_method_26_code 4 = .ok (.aload_n 0, 1) := by decide +kernel
theorem d21_5 : decode jdk_35_method_26_code 5 = .ok (.lload_n 1, 1) := by decide +kernel
theorem d21_6 : decode jdk_35_method_26_code 6 = .ok (.putfield 273, 3) := by decide +kernel
theorem d21_9 : decode jdk_35_method_26_code 9 = .ok (.return_, 1) := by decide +kernel
theorem ef_21 (m : MethodId) (x0 : Addr) (x1 : Int64) : entryFrame m #[(.ref x0), (.long x1)] 3 = mkF m 0 #[.val (.ref x0), .val (.long x1), .second] [] := by first | (simp [entryFrame, mkF, argsToLocals, Value.category]; done) | rfl
theorem pn_java_lang_Long : plainName "java/lang/Long" = true := by first | (simp [plainName, overriddenIn]; done) | decide +kernel
def Q_21 (Z : State) (a1 : Addr) (q2 : Int64) (h0 : Heap) (n0 : Nat) (v : Option Value) (h : Heap) (L : List Loc) : Prop := v = none ∧ Fr n0 L ∧ Keep h0 h [a1] ∧ Exa Z h a1 "java/lang/Long"
set_option maxRecDepth 65536 in
set_option maxHeartbeats 40000000 in
theorem rm_21 (l : Launch) (Z : State) (a0 : Array Value) (hw : ∀ d ∈ tables_1, d.before a0 Z = true) (ws : List Jvm.Cond) (a1 : Addr) (q2 : Int64) (h0 : Heap) (n0 : Nat) (Z0 : n0 ≤ h0.size) (E_a1 : Exa Z h0 a1 "java/lang/Long") (F_v : Fld Z h0 a1 "java/lang/Long" "value" "J" (.long (0 : Int64))) (g_a1 : n0 ≤ a1) :
    MetFree l (⟨"java/lang/Long", "<init>", "(J)V"⟩ : MethodName) (head1 (Jvm.Cond.code (⟨"java/lang/Long", "<init>", "(J)V"⟩ : MethodName) jdk_35_method_26_code 3 none :: ws) ({ frames := 2, cells := 0, slots := 0, locals := 24 } : Room)) (fun a U => a = #[(.ref a1), (.long q2)] ∧ Z.Warmed39 U.vm ∧ U.heap = h0) (fun _ _ _ _ _ => True) (fun _ U o U' => ∃ v L, o = .returned v ∧ Q_21 Z a1 q2 h0 n0 v U'.heap L ∧ FrameEnd U o U' L ({ frames := 2, cells := 0, slots := 0, locals := 24 } : Room).cells ({ frames := 2, cells := 0, slots := 0, locals := 24 } : Room).slots) := by
  refine MetFree.of_bodySF (plainFor_of_name pn_java_lang_Long) hisR ?_
  intro p e s m args below meth c s₁ Bd hml0 hP hK
  obtain ⟨rfl, hZ, hh⟩ := hP
  have hx := Bd.exec
  have hby := Bd.bytes
  have hml : c.maxLocals = 3 := hml0
  have hown : s.vm.findClass "java/lang/Long" = some m.cls := findClass_of_methodNamed Bd.named
  have hnm := (name_of_methodNamed Bd.named Bd.method).1
  have X0 : Stand p l e ({ frames := 2, cells := 0, slots := 0, locals := 24 } : Room) s m #[(.ref a1), (.long q2)] below meth c s₁ [] 0 0 := Stand.of_body Bd
  have e0 : s₁.heap = h0 := by rw [← hh, Bd.state]; rfl
  have N0 := Fr.nil n0
  have pw0 : ∀ t, Steps p.tables e below (s₁.setTop (mkF m 0 #[.val (.ref a1), .val (.long q2), .second] [])) t → Steps p.tables e below (s₁.setTop (entryFrame m #[(.ref a1), (.long q2)] 3)) t := fun t k => castTop (ef_21 m a1 q2) k
  have K0 : Keep h0 h0 [a1] := Keep.refl h0 [a1]
  obtain ⟨_, _, ⟨T31, L31, k31, n31⟩, -, X31, ⟨Lc31, hQ31, l31, y31, z31⟩, st31⟩ := X0.specialBack hx (y := (⟨"java/lang/Number", "<init>", "()V"⟩ : MethodName)) rfl hown (mvT hZ (hw _ (List.mem_of_getElem? (i := 155) rfl))) (mvT hZ (hw _ (List.mem_of_getElem? (i := 156) rfl))) (mvT hZ (hw _ (List.mem_of_getElem? (i := 160) rfl))) (by decide) (backOf (W := 0) (rm_22 l Z a0 hw [] a1 h0 n0 Z0 ) hZ (hw _ (List.mem_of_getElem? (i := 160) rfl)) (hw _ (List.mem_of_getElem? (i := 159) rfl)) (by decide) (by decide)) (g := (mkF m 1 #[.val (.ref a1), .val (.long q2), .second] [(.ref a1)])) rfl (by rw [hml]; rfl) (Steps.refl _) (a := a1) (argsL := []) (rest := []) (lenOf pd___V rfl) rfl (by show 2 * 0 + _ ≤ _; exact Nat.le_of_eq rfl) (hb hby d21_1) (fun _ _ => ⟨rfl, e0, (by decide : 0 + 0 ≤ _), (by decide : 0 + 0 ≤ _)⟩)
  dsimp only [Pt.U, Pt.locs, Pt.cells, Pt.slots] at X31 l31 y31 z31 st31 hQ31
  subst l31 y31 z31
  obtain ⟨rfl, N31q, e31q⟩ := hQ31
  have N31 := Fr.app N0 N31q
  obtain ⟨T32, h32, X32, e32, W32, st32⟩ := putF X31 hx hZ hown (host := "") (Or.inl (hw _ (List.mem_of_getElem? (i := 162) rfl))) Via.refl e31q F_v E_a1 (Or.inr ⟨(hw _ (List.mem_of_getElem? (i := 163) rfl)), rfl, hnm⟩) (hw _ (List.mem_of_getElem? (i := 150) rfl)) (ty := .long) (by decide) rfl rfl (g := (mkF m 6 #[.val (.ref a1), .val (.long q2), .second] [(.long q2), (.ref a1)])) rfl rfl (hb hby d21_6)
  have Fw32 := F_v.same W32
  have K32 : Keep h0 h32 [a1] := K0.wr W32 (Or.inl (List.mem_of_getElem? (i := 0) rfl))
  have N32 := Fr.snoc X32 N31 g_a1
  have Z32 : n0 ≤ h32.size := (Nat.le_trans Z0 (Nat.le_of_eq (Wr.size W32).symm))
  obtain ⟨fs, hr, hrun, hended, hW, hsame⟩ := X32.leave (v := none) (fun _ => rfl)
  refine ⟨_, _, pw0 _ ?_, hrun, hended, _, _, rfl, ?_, ⟨_, rfl⟩, hW, hsame.mono (by decide) (by decide)⟩
  · skip
    refine XS.aloadN X0.here hx rfl (hb hby d21_0) rfl rfl ?_
    show Steps p.tables e below (s₁.setTop (mkF m 1 #[.val (.ref a1), .val (.long q2), .second] [(.ref a1)])) _
    refine st31.trans ?_
    show Steps p.tables e below (T31.setTop (mkF m 4 #[.val (.ref a1), .val (.long q2), .second] [])) _
    refine XS.aloadN X31.here hx rfl (hb hby d21_4) rfl rfl ?_
    show Steps p.tables e below (T31.setTop (mkF m 5 #[.val (.ref a1), .val (.long q2), .second] [(.ref a1)])) _
    refine XS.lloadN X31.here hx rfl (hb hby d21_5) rfl ?_
    show Steps p.tables e below (T31.setTop (mkF m 6 #[.val (.ref a1), .val (.long q2), .second] [(.long q2), (.ref a1)])) _
    refine st32 _ ?_
    show Steps p.tables e below (T32.setTop (mkF m 9 #[.val (.ref a1), .val (.long q2), .second] [])) _
    exact X32.returnOut hx Bd.returns (hb hby d21_9) hr
  · show Q_21 Z a1 q2 h0 n0 _ T32.heap _
    rw [e32]
    exact ⟨rfl, N32, K32, (E_a1.wr W32)⟩
theorem d13_0 : decode jdk_35_method_24_code 0 = .ok (.sipush 128, 3) := by decide +kernel
theorem d13_3 : decode jdk_35_method_24_code 3 = .ok (.istore_n 2, 1) := by decide +kernel
theorem d13_4 : decode jdk_35_method_24_code 4 = .ok (.lload_n 0, 1) := by decide +kernel
theorem d13_5 : decode jdk_35_method_24_code 5 = .ok (.ldc2_w 230, 3) := by decide +kernel
theorem d13_8 : decode jdk_35_method_24_code 8 = .ok (.lcmp, 1) := by decide +kernel
theorem d13_9 : decode jdk_35_method_24_code 9 = .ok (.ifCond .lt 22, 3) := by decide +kernel
theorem d13_12 : decode jdk_35_method_24_code 12 = .ok (.lload_n 0, 1) := by decide +kernel
theorem d13_13 : decode jdk_35_method_24_code 13 = .ok (.ldc2_w 232, 3) := by decide +kernel
theorem d13_16 : decode jdk_35_method_24_code 16 = .ok (.lcmp, 1) := by decide +kernel
theorem d13_17 : decode jdk_35_method_24_code 17 = .ok (.ifCond .gt 14, 3) := by decide +kernel
theorem d13_20 : decode jdk_35_method_24_code 20 = .ok (.getstatic 234, 3) := by decide +kernel
theorem d13_23 : decode jdk_35_method_24_code 23 = .ok (.lload_n 0, 1) := by decide +kernel
theorem d13_24 : decode jdk_35_method_24_code 24 = .ok (.l2i, 1) := by decide +kernel
theorem d13_25 : decode jdk_35_method_24_code 25 = .ok (.sipush 128, 3) := by decide +kernel
theorem d13_28 : decode jdk_35_method_24_code 28 = .ok (.iadd, 1) := by decide +kernel
theorem d13_29 : decode jdk_35_method_24_code 29 = .ok (.aaload, 1) := by decide +kernel
theorem d13_30 : decode jdk_35_method_24_code 30 = .ok (.areturn, 1) := by decide +kernel
theorem d13_31 : decode jdk_35_method_24_code 31 = .ok (.new 1, 3) := by decide +kernel
theorem d13_34 : decode jdk_35_method_24_code 34 = .ok (.dup, 1) := by decide +kernel
theorem d13_35 : decode jdk_35_method_24_code 35 = .ok (.lload_n 0, 1) := by decide +kernel
theorem d13_36 : decode jdk_35_method_24_code 36 = .ok (.invokespecial 240, 3) := by decide +kernel
theorem d13_39 : decode jdk_35_method_24_code 39 = .ok (.areturn, 1) := by decide +kernel
theorem ef_13 (m : MethodId) (x0 : Int64) : entryFrame m #[(.long x0)] 3 = mkF m 0 #[.val (.long x0), .second, .unset] [] := by first | (simp [entryFrame, mkF, argsToLocals, Value.category]; done) | rfl
def Q_13 (Z : State) (q1 : Int64) (cl : Cell) (ca : Addr) (h0 : Heap) (n0 : Nat) (v : Option Value) (h : Heap) (L : List Loc) : Prop := ∃ b : Addr, v = some (.ref b) ∧ Fr n0 L ∧ Keep h0 h [] ∧ Exa Z h b "java/lang/Long"
set_option maxRecDepth 65536 in
set_option maxHeartbeats 40000000 in
theorem rm_13 (l : Launch) (Z : State) (a0 : Array Value) (hw : ∀ d ∈ tables_1, d.before a0 Z = true) (ws : List Jvm.Cond) (q1 : Int64) (cl : Cell) (ca : Addr) (h0 : Heap) (n0 : Nat) (Z0 : n0 ≤ h0.size) (S_c : Sta Z h0 "java/lang/Long$LongCache" "cache" "[Ljava/lang/Long;" (.ref ca)) (Ar_c : Arr Z h0 ca cl (.object "java/lang/Long")) (hsz : cl.slots.size = 256) (hcache : ∀ j : Int32, ¬ (j < 0 ∨ cl.slots.size ≤ j.toNatClampNeg) → ∃ b, cl.slots[j.toNatClampNeg]? = some (.ref b) ∧ Exa Z h0 b "java/lang/Long") :
    MetFree l (⟨"java/lang/Long", "valueOf", "(J)Ljava/lang/Long;"⟩ : MethodName) (head1 (Jvm.Cond.code (⟨"java/lang/Long", "valueOf", "(J)Ljava/lang/Long;"⟩ : MethodName) jdk_35_method_24_code 3 (some (.object "java/lang/Long")) :: ws) ({ frames := 3, cells := 1, slots := 1, locals := 39 } : Room)) (fun a U => a = #[(.long q1)] ∧ Z.Warmed39 U.vm ∧ U.heap = h0) (fun _ _ _ _ _ => True) (fun _ U o U' => ∃ v L, o = .returned v ∧ Q_13 Z q1 cl ca h0 n0 v U'.heap L ∧ FrameEnd U o U' L ({ frames := 3, cells := 1, slots := 1, locals := 39 } : Room).cells ({ frames := 3, cells := 1, slots := 1, locals := 39 } : Room).slots) := by
  refine MetFree.of_bodySF (plainFor_of_name pn_java_lang_Long) hisR ?_
  intro p e s m args below meth c s₁ Bd hml0 hP hK
  obtain ⟨rfl, hZ, hh⟩ := hP
  have hx := Bd.exec
  have hby := Bd.bytes
  have hml : c.maxLocals = 3 := hml0
  have hown : s.vm.findClass "java/lang/Long" = some m.cls := findClass_of_methodNamed Bd.named
  have hnm := (name_of_methodNamed Bd.named Bd.method).1
  have X0 : Stand p l e ({ frames := 3, cells := 1, slots := 1, locals := 39 } : Room) s m #[(.long q1)] below meth c s₁ [] 0 0 := Stand.of_body Bd
  have e0 : s₁.heap = h0 := by rw [← hh, Bd.state]; rfl
  have N0 := Fr.nil n0
  have pw0 : ∀ t, Steps p.tables e below (s₁.setTop (mkF m 0 #[.val (.long q1), .second, .unset] [])) t → Steps p.tables e below (s₁.setTop (entryFrame m #[(.long q1)] 3)) t := fun t k => castTop (ef_13 m q1) k
  have K0 : Keep h0 h0 [] := Keep.refl h0 []
  have pw33 : ∀ t, Steps p.tables e below (s₁.setTop (mkF m 9 #[.val (.long q1), .second, .val (.int (128 : Int32))] [(.int (lcmpW q1 (-128 : Int64)))])) t → Steps p.tables e below (s₁.setTop (entryFrame m #[(.long q1)] 3)) t := by
    intro t k
    refine pw0 t ?_
    refine XS.sipush X0.here hx rfl (hb hby d13_0) ?_
    show Steps p.tables e below (s₁.setTop (mkF m 3 #[.val (.long q1), .second, .unset] [(.int (128 : Int32))])) _
    refine XS.istoreN X0.here hx rfl (hb hby d13_3) rfl (l' := #[.val (.long q1), .second, .val (.int (128 : Int32))]) rfl ?_
    show Steps p.tables e below (s₁.setTop (mkF m 4 #[.val (.long q1), .second, .val (.int (128 : Int32))] [])) _
    refine XS.lloadN X0.here hx rfl (hb hby d13_4) rfl ?_
    show Steps p.tables e below (s₁.setTop (mkF m 5 #[.val (.long q1), .second, .val (.int (128 : Int32))] [(.long q1)])) _
    refine X0.ldc2Long hx hown (mvT hZ (hw _ (List.mem_of_getElem? (i := 101) rfl))) (g := (mkF m 5 #[.val (.long q1), .second, .val (.int (128 : Int32))] [(.long q1)])) rfl (hb hby d13_5) _ ?_
    show Steps p.tables e below (s₁.setTop (mkF m 8 #[.val (.long q1), .second, .val (.int (128 : Int32))] [(.long (-128 : Int64)), (.long q1)])) _
    refine XS.lcmp X0.here hx rfl (hb hby d13_8) rfl ?_
    show Steps p.tables e below (s₁.setTop (mkF m 9 #[.val (.long q1), .second, .val (.int (128 : Int32))] [(.int (lcmpW q1 (-128 : Int64)))])) _
    exact k
  by_cases hc34 : q1 < (-128 : Int64)
  · skip
    obtain ⟨T35, h35, X35, e35, E35, A35, D35, -, st35⟩ := newO X0 hx hZ hown (hw _ (List.mem_of_getElem? (i := 149) rfl)) (hw _ (List.mem_of_getElem? (i := 150) rfl)) (hw _ (List.mem_of_getElem? (i := 99) rfl)) e0 (g := (mkF m 31 #[.val (.long q1), .second, .val (.int (128 : Int32))] [])) rfl (hb hby d13_31) (by decide) (by decide)
    obtain ⟨b35, g35⟩ : ∃ z, z = h0.size := ⟨_, rfl⟩
    rw [← g35] at A35 D35 st35
    have g_b35 : n0 ≤ b35 := Nat.le_trans Z0 (Nat.le_of_eq g35.symm)
    have sz_b35 : h0.size ≤ b35 := Nat.le_trans K0.1 (Nat.le_of_eq g35.symm)
    have F_value_b35 : Fld Z h35 b35 "java/lang/Long" "value" "J" (.long (0 : Int64)) := D35 (Or.inr (hw _ (List.mem_of_getElem? (i := 163) rfl))) (ty := .long) (by decide)
    have K35 : Keep h0 h35 [] := K0.ext E35
    have Z35 : n0 ≤ h35.size := (Nat.le_trans Z0 E35.1)
    obtain ⟨_, _, ⟨T36, L36, k36, n36⟩, -, X36, ⟨Lc36, hQ36, l36, y36, z36⟩, st36⟩ := X35.specialBack hx (y := (⟨"java/lang/Long", "<init>", "(J)V"⟩ : MethodName)) rfl hown (mvT hZ (hw _ (List.mem_of_getElem? (i := 151) rfl))) (mvT hZ (hw _ (List.mem_of_getElem? (i := 152) rfl))) (mvT hZ (hw _ (List.mem_of_getElem? (i := 154) rfl))) (by decide) (backOf (W := 1) (rm_21 l Z a0 hw [] b35 q1 h35 n0 Z35 A35 F_value_b35 g_b35) hZ (hw _ (List.mem_of_getElem? (i := 154) rfl)) (hw _ (List.mem_of_getElem? (i := 99) rfl)) (by decide) (by decide)) (g := (mkF m 36 #[.val (.long q1), .second, .val (.int (128 : Int32))] [(.long q1), (.ref b35), (.ref b35)])) rfl (by rw [hml]; rfl) (Steps.refl _) (a := b35) (argsL := [(.long q1)]) (rest := [(.ref b35)]) (lenOf pd__J_V rfl) rfl (by show 2 * 0 + _ ≤ _; exact Nat.le_of_eq rfl) (hb hby d13_36) (fun _ _ => ⟨rfl, e35, (by decide : 1 + 0 ≤ _), (by decide : 1 + 0 ≤ _)⟩)
    dsimp only [Pt.U, Pt.locs, Pt.cells, Pt.slots] at X36 l36 y36 z36 st36 hQ36
    subst l36 y36 z36
    obtain ⟨rfl, N36q, K36q, E36q⟩ := hQ36
    have N36 := Fr.app N0 N36q
    have S36_0 := own_staKeep (Sta.ext E35 S_c) K36q (nsS (A35.nostat) ns0)
    have K36 : Keep h0 T36.heap [] := K35.trans K36q (allS (P := fun x => x ∈ [] ∨ h0.size ≤ x) (Or.inr sz_b35) all0)
    have Z36 : n0 ≤ T36.heap.size := (Nat.le_trans Z35 K36q.1)
    obtain ⟨fs, hr, hrun, hended, hW, hsame⟩ := X36.leave (v := some (.ref b35)) (fun h => by rw [Bd.returns] at h; cases h)
    refine ⟨_, _, pw33 _ ?_, hrun, hended, _, _, rfl, ?_, ⟨_, rfl⟩, hW, hsame.mono (by decide) (by decide)⟩
    · skip
      refine XS.ifYes X0.here hx rfl (pc0 := 9) (pc' := 31) rfl (hb hby d13_9) rfl ((if0 _ _).trans (tlt ((lw_lt q1 (-128 : Int64)).2 hc34)).1) (by decide) (by decide) ?_
      show Steps p.tables e below (s₁.setTop (mkF m 31 #[.val (.long q1), .second, .val (.int (128 : Int32))] [])) _
      refine st35 _ ?_
      show Steps p.tables e below (T35.setTop (mkF m 34 #[.val (.long q1), .second, .val (.int (128 : Int32))] [(.ref b35)])) _
      refine XS.dup X35.here hx rfl (hb hby d13_34) rfl rfl ?_
      show Steps p.tables e below (T35.setTop (mkF m 35 #[.val (.long q1), .second, .val (.int (128 : Int32))] [(.ref b35), (.ref b35)])) _
      refine XS.lloadN X35.here hx rfl (hb hby d13_35) rfl ?_
      show Steps p.tables e below (T35.setTop (mkF m 36 #[.val (.long q1), .second, .val (.int (128 : Int32))] [(.long q1), (.ref b35), (.ref b35)])) _
      refine st36.trans ?_
      show Steps p.tables e below (T36.setTop (mkF m 39 #[.val (.long q1), .second, .val (.int (128 : Int32))] [(.ref b35)])) _
      exact retOut X36 hx Bd.returns rfl (Or.inr (Or.inr (Or.inr (Or.inr ⟨rfl, rfl, rfl⟩)))) (hb hby d13_39) hr
    · show Q_13 Z q1 cl ca h0 n0 _ T36.heap _
      exact ⟨b35, rfl, N36, K36, E36q⟩
  · skip
    have pw37 : ∀ t, Steps p.tables e below (s₁.setTop (mkF m 17 #[.val (.long q1), .second, .val (.int (128 : Int32))] [(.int (lcmpW q1 (127 : Int64)))])) t → Steps p.tables e below (s₁.setTop (entryFrame m #[(.long q1)] 3)) t := by
      intro t k
      refine pw33 t ?_
      refine XS.ifNo X0.here hx rfl (hb hby d13_9) rfl ((if0 _ _).trans (flt (mt (lw_lt q1 (-128 : Int64)).1 hc34)).1) ?_
      show Steps p.tables e below (s₁.setTop (mkF m 12 #[.val (.long q1), .second, .val (.int (128 : Int32))] [])) _
      refine XS.lloadN X0.here hx rfl (hb hby d13_12) rfl ?_
      show Steps p.tables e below (s₁.setTop (mkF m 13 #[.val (.long q1), .second, .val (.int (128 : Int32))] [(.long q1)])) _
      refine X0.ldc2Long hx hown (mvT hZ (hw _ (List.mem_of_getElem? (i := 102) rfl))) (g := (mkF m 13 #[.val (.long q1), .second, .val (.int (128 : Int32))] [(.long q1)])) rfl (hb hby d13_13) _ ?_
      show Steps p.tables e below (s₁.setTop (mkF m 16 #[.val (.long q1), .second, .val (.int (128 : Int32))] [(.long (127 : Int64)), (.long q1)])) _
      refine XS.lcmp X0.here hx rfl (hb hby d13_16) rfl ?_
      show Steps p.tables e below (s₁.setTop (mkF m 17 #[.val (.long q1), .second, .val (.int (128 : Int32))] [(.int (lcmpW q1 (127 : Int64)))])) _
      exact k
    by_cases hc38 : (127 : Int64) < q1
    · skip
      obtain ⟨T39, h39, X39, e39, E39, A39, D39, -, st39⟩ := newO X0 hx hZ hown (hw _ (List.mem_of_getElem? (i := 149) rfl)) (hw _ (List.mem_of_getElem? (i := 150) rfl)) (hw _ (List.mem_of_getElem? (i := 99) rfl)) e0 (g := (mkF m 31 #[.val (.long q1), .second, .val (.int (128 : Int32))] [])) rfl (hb hby d13_31) (by decide) (by decide)
      obtain ⟨b39, g39⟩ : ∃ z, z = h0.size := ⟨_, rfl⟩
      rw [← g39] at A39 D39 st39
      have g_b39 : n0 ≤ b39 := Nat.le_trans Z0 (Nat.le_of_eq g39.symm)
      have sz_b39 : h0.size ≤ b39 := Nat.le_trans K0.1 (Nat.le_of_eq g39.symm)
      have F_value_b39 : Fld Z h39 b39 "java/lang/Long" "value" "J" (.long (0 : Int64)) := D39 (Or.inr (hw _ (List.mem_of_getElem? (i := 163) rfl))) (ty := .long) (by decide)
      have K39 : Keep h0 h39 [] := K0.ext E39
      have Z39 : n0 ≤ h39.size := (Nat.le_trans Z0 E39.1)
      obtain ⟨_, _, ⟨T40, L40, k40, n40⟩, -, X40, ⟨Lc40, hQ40, l40, y40, z40⟩, st40⟩ := X39.specialBack hx (y := (⟨"java/lang/Long", "<init>", "(J)V"⟩ : MethodName)) rfl hown (mvT hZ (hw _ (List.mem_of_getElem? (i := 151) rfl))) (mvT hZ (hw _ (List.mem_of_getElem? (i := 152) rfl))) (mvT hZ (hw _ (List.mem_of_getElem? (i := 154) rfl))) (by decide) (backOf (W := 1) (rm_21 l Z a0 hw [] b39 q1 h39 n0 Z39 A39 F_value_b39 g_b39) hZ (hw _ (List.mem_of_getElem? (i := 154) rfl)) (hw _ (List.mem_of_getElem? (i := 99) rfl)) (by decide) (by decide)) (g := (mkF m 36 #[.val (.long q1), .second, .val (.int (128 : Int32))] [(.long q1), (.ref b39), (.ref b39)])) rfl (by rw [hml]; rfl) (Steps.refl _) (a := b39) (argsL := [(.long q1)]) (rest := [(.ref b39)]) (lenOf pd__J_V rfl) rfl (by show 2 * 0 + _ ≤ _; exact Nat.le_of_eq rfl) (hb hby d13_36) (fun _ _ => ⟨rfl, e39, (by decide : 1 + 0 ≤ _), (by decide : 1 + 0 ≤ _)⟩)
      dsimp only [Pt.U, Pt.locs, Pt.cells, Pt.slots] at X40 l40 y40 z40 st40 hQ40
      subst l40 y40 z40
      obtain ⟨rfl, N40q, K40q, E40q⟩ := hQ40
      have N40 := Fr.app N0 N40q
      have S40_0 := own_staKeep (Sta.ext E39 S_c) K40q (nsS (A39.nostat) ns0)
      have K40 : Keep h0 T40.heap [] := K39.trans K40q (allS (P := fun x => x ∈ [] ∨ h0.size ≤ x) (Or.inr sz_b39) all0)
      have Z40 : n0 ≤ T40.heap.size := (Nat.le_trans Z39 K40q.1)
      obtain ⟨fs, hr, hrun, hended, hW, hsame⟩ := X40.leave (v := some (.ref b39)) (fun h => by rw [Bd.returns] at h; cases h)
      refine ⟨_, _, pw37 _ ?_, hrun, hended, _, _, rfl, ?_, ⟨_, rfl⟩, hW, hsame.mono (by decide) (by decide)⟩
      · skip
        refine XS.ifYes X0.here hx rfl (pc0 := 17) (pc' := 31) rfl (hb hby d13_17) rfl ((if0 _ _).trans (tlt ((lw_gt q1 (127 : Int64)).2 hc38)).2.2.1) (by decide) (by decide) ?_
        show Steps p.tables e below (s₁.setTop (mkF m 31 #[.val (.long q1), .second, .val (.int (128 : Int32))] [])) _
        refine st39 _ ?_
        show Steps p.tables e below (T39.setTop (mkF m 34 #[.val (.long q1), .second, .val (.int (128 : Int32))] [(.ref b39)])) _
        refine XS.dup X39.here hx rfl (hb hby d13_34) rfl rfl ?_
        show Steps p.tables e below (T39.setTop (mkF m 35 #[.val (.long q1), .second, .val (.int (128 : Int32))] [(.ref b39), (.ref b39)])) _
        refine XS.lloadN X39.here hx rfl (hb hby d13_35) rfl ?_
        show Steps p.tables e below (T39.setTop (mkF m 36 #[.val (.long q1), .second, .val (.int (128 : Int32))] [(.long q1), (.ref b39), (.ref b39)])) _
        refine st40.trans ?_
        show Steps p.tables e below (T40.setTop (mkF m 39 #[.val (.long q1), .second, .val (.int (128 : Int32))] [(.ref b39)])) _
        exact retOut X40 hx Bd.returns rfl (Or.inr (Or.inr (Or.inr (Or.inr ⟨rfl, rfl, rfl⟩)))) (hb hby d13_39) hr
      · show Q_13 Z q1 cl ca h0 n0 _ T40.heap _
        exact ⟨b39, rfl, N40, K40, E40q⟩
    · skip
      obtain ⟨T41, X41, e41, st41⟩ := getS2 X0 hx hZ hown (host := "") (Or.inl (hw _ (List.mem_of_getElem? (i := 103) rfl))) Via.refl e0 S_c (g := (mkF m 20 #[.val (.long q1), .second, .val (.int (128 : Int32))] [])) rfl (hb hby d13_20)
      have hin : ¬ (((q1.toInt32) + (128 : Int32)) < 0 ∨ cl.slots.size ≤ (((q1.toInt32) + (128 : Int32))).toNatClampNeg) := own_idxL hsz hc34 hc38
      obtain ⟨bx, hat, E_bx⟩ := hcache ((q1.toInt32) + (128 : Int32)) hin
      obtain ⟨fs, hr, hrun, hended, hW, hsame⟩ := X41.leave (v := some (.ref bx)) (fun h => by rw [Bd.returns] at h; cases h)
      refine ⟨_, _, pw37 _ ?_, hrun, hended, _, _, rfl, ?_, ⟨_, rfl⟩, hW, hsame.mono (by decide) (by decide)⟩
      · skip
        refine XS.ifNo X0.here hx rfl (hb hby d13_17) rfl ((if0 _ _).trans (flt (mt (lw_gt q1 (127 : Int64)).1 hc38)).2.2.1) ?_
        show Steps p.tables e below (s₁.setTop (mkF m 20 #[.val (.long q1), .second, .val (.int (128 : Int32))] [])) _
        refine st41 _ ?_
        show Steps p.tables e below (T41.setTop (mkF m 23 #[.val (.long q1), .second, .val (.int (128 : Int32))] [(.ref ca)])) _
        refine XS.lloadN X41.here hx rfl (hb hby d13_23) rfl ?_
        show Steps p.tables e below (T41.setTop (mkF m 24 #[.val (.long q1), .second, .val (.int (128 : Int32))] [(.long q1), (.ref ca)])) _
        refine XS.l2i X41.here hx rfl (hb hby d13_24) rfl ?_
        show Steps p.tables e below (T41.setTop (mkF m 25 #[.val (.long q1), .second, .val (.int (128 : Int32))] [(.int (q1.toInt32)), (.ref ca)])) _
        refine XS.sipush X41.here hx rfl (hb hby d13_25) ?_
        show Steps p.tables e below (T41.setTop (mkF m 28 #[.val (.long q1), .second, .val (.int (128 : Int32))] [(.int (128 : Int32)), (.int (q1.toInt32)), (.ref ca)])) _
        refine XS.iadd X41.here hx rfl (hb hby d13_28) rfl ?_
        show Steps p.tables e below (T41.setTop (mkF m 29 #[.val (.long q1), .second, .val (.int (128 : Int32))] [(.int ((q1.toInt32) + (128 : Int32))), (.ref ca)])) _
        refine X41.aaload hx (j := ((q1.toInt32) + (128 : Int32))) (v := (.ref bx)) (by rw [e41]; exact Ar_c.1) (State.isArrayOf_alike hZ.alike Ar_c.2.1) rfl Ar_c.2.2 hin hat (g := (mkF m 29 #[.val (.long q1), .second, .val (.int (128 : Int32))] [(.int ((q1.toInt32) + (128 : Int32))), (.ref ca)])) rfl rfl (hb hby d13_29) _ ?_
        show Steps p.tables e below (T41.setTop (mkF m 30 #[.val (.long q1), .second, .val (.int (128 : Int32))] [(.ref bx)])) _
        exact retOut X41 hx Bd.returns rfl (Or.inr (Or.inr (Or.inr (Or.inr ⟨rfl, rfl, rfl⟩)))) (hb hby d13_30) hr
      · show Q_13 Z q1 cl ca h0 n0 _ T41.heap _
        rw [e41]
        exact ⟨bx, rfl, N0, K0, E_bx⟩
theorem d12_0 : decode jdk_21_method_38_code 0 = .ok (.aload_n 0, 1) := by decide +kernel
theorem d12_1 : decode jdk_21_method_38_code 1 = .ok (.getfield 24, 3) := by decide +kernel
theorem d12_4 : decode jdk_21_method_38_code 4 = .ok (.aload_n 0, 1) := by decide +kernel
theorem d12_5 : decode jdk_21_method_38_code 5 = .ok (.getfield 20, 3) := by decide +kernel
theorem d12_8 : decode jdk_21_method_38_code 8 = .ok (.if_icmp .ne 7, 3) := by decide +kernel
theorem d12_11 : decode jdk_21_method_38_code 11 = .ok (.iconst 1, 1) := by decide +kernel
theorem d12_12 : decode jdk_21_method_38_code 12 = .ok (.goto 4, 3) := by decide +kernel
theorem d12_16 : decode jdk_21_method_38_code 16 = .ok (.ireturn, 1) := by decide +kernel
theorem ef_12 (m : MethodId) (x0 : Addr) : entryFrame m #[(.ref x0)] 1 = mkF m 0 #[.val (.ref x0)] [] := by first | (simp [entryFrame, mkF, argsToLocals, Value.category]; done) | rfl
def Q_12 (Z : State) (a1 : Addr) (h0 : Heap) (n0 : Nat) (v : Option Value) (h : Heap) (L : List Loc) : Prop := v = some (.int 1) ∧ Fr n0 L ∧ h = h0
set_option maxRecDepth 65536 in
set_option maxHeartbeats 40000000 in
theorem rm_12 (l : Launch) (Z : State) (a0 : Array Value) (hw : ∀ d ∈ tables_1, d.before a0 Z = true) (ws : List Jvm.Cond) (a1 : Addr) (h0 : Heap) (n0 : Nat) (Z0 : n0 ≤ h0.size) (F_head : Fld Z h0 a1 "java/util/ArrayDeque" "head" "I" (.int (0 : Int32))) (F_tail : Fld Z h0 a1 "java/util/ArrayDeque" "tail" "I" (.int (0 : Int32))) :
    MetFree l (⟨"java/util/ArrayDeque", "isEmpty", "()Z"⟩ : MethodName) (head1 (Jvm.Cond.code (⟨"java/util/ArrayDeque", "isEmpty", "()Z"⟩ : MethodName) jdk_21_method_38_code 1 (some .boolean) :: ws) ({ frames := 0, cells := 0, slots := 0, locals := 0 } : Room)) (fun a U => a = #[(.ref a1)] ∧ Z.Warmed39 U.vm ∧ U.heap = h0) (fun _ _ _ _ _ => True) (fun _ U o U' => ∃ v L, o = .returned v ∧ Q_12 Z a1 h0 n0 v U'.heap L ∧ FrameEnd U o U' L ({ frames := 0, cells := 0, slots := 0, locals := 0 } : Room).cells ({ frames := 0, cells := 0, slots := 0, locals := 0 } : Room).slots) := by
  refine MetFree.of_bodySF (plainFor_of_name pn_java_util_ArrayDeque) hisR ?_
  intro p e s m args below meth c s₁ Bd hml0 hP hK
  obtain ⟨rfl, hZ, hh⟩ := hP
  have hx := Bd.exec
  have hby := Bd.bytes
  have hml : c.maxLocals = 1 := hml0
  have hown : s.vm.findClass "java/util/ArrayDeque" = some m.cls := findClass_of_methodNamed Bd.named
  have hnm := (name_of_methodNamed Bd.named Bd.method).1
  have X0 : Stand p l e ({ frames := 0, cells := 0, slots := 0, locals := 0 } : Room) s m #[(.ref a1)] below meth c s₁ [] 0 0 := Stand.of_body Bd
  have e0 : s₁.heap = h0 := by rw [← hh, Bd.state]; rfl
  have N0 := Fr.nil n0
  have pw0 : ∀ t, Steps p.tables e below (s₁.setTop (mkF m 0 #[.val (.ref a1)] [])) t → Steps p.tables e below (s₁.setTop (entryFrame m #[(.ref a1)] 1)) t := fun t k => castTop (ef_12 m a1) k
  have K0 : Keep h0 h0 [] := Keep.refl h0 []
  obtain ⟨T43, X43, e43, st43⟩ := getF X0 hx hZ hown (host := "") (Or.inl (hw _ (List.mem_of_getElem? (i := 93) rfl))) Via.refl e0 F_head (g := (mkF m 1 #[.val (.ref a1)] [(.ref a1)])) rfl rfl (hb hby d12_1)
  obtain ⟨T44, X44, e44, st44⟩ := getF X43 hx hZ hown (host := "") (Or.inl (hw _ (List.mem_of_getElem? (i := 95) rfl))) Via.refl e43 F_tail (g := (mkF m 5 #[.val (.ref a1)] [(.ref a1), (.int (0 : Int32))])) rfl rfl (hb hby d12_5)
  obtain ⟨fs, hr, hrun, hended, hW, hsame⟩ := X44.leave (v := some (.int (1 : Int32))) (fun h => by rw [Bd.returns] at h; cases h)
  refine ⟨_, _, pw0 _ ?_, hrun, hended, _, _, rfl, ?_, ⟨_, rfl⟩, hW, hsame.mono (by decide) (by decide)⟩
  · skip
    refine XS.aloadN X0.here hx rfl (hb hby d12_0) rfl rfl ?_
    show Steps p.tables e below (s₁.setTop (mkF m 1 #[.val (.ref a1)] [(.ref a1)])) _
    refine st43 _ ?_
    show Steps p.tables e below (T43.setTop (mkF m 4 #[.val (.ref a1)] [(.int (0 : Int32))])) _
    refine XS.aloadN X43.here hx rfl (hb hby d12_4) rfl rfl ?_
    show Steps p.tables e below (T43.setTop (mkF m 5 #[.val (.ref a1)] [(.ref a1), (.int (0 : Int32))])) _
    refine st44 _ ?_
    show Steps p.tables e below (T44.setTop (mkF m 8 #[.val (.ref a1)] [(.int (0 : Int32)), (.int (0 : Int32))])) _
    refine XS.icmpNo X44.here hx rfl (hb hby d12_8) rfl (teq (by decide : (0 : Int32) = (0 : Int32))).2 ?_
    show Steps p.tables e below (T44.setTop (mkF m 11 #[.val (.ref a1)] [])) _
    refine XS.iconst X44.here hx rfl (hb hby d12_11) ?_
    show Steps p.tables e below (T44.setTop (mkF m 12 #[.val (.ref a1)] [(.int (1 : Int32))])) _
    refine XS.goto X44.here hx rfl (pc0 := 12) (pc' := 16) rfl (hb hby d12_12) (by decide) (by decide) ?_
    show Steps p.tables e below (T44.setTop (mkF m 16 #[.val (.ref a1)] [(.int (1 : Int32))])) _
    exact retN X44 hx (t := .boolean) Bd.returns (by simp) (hb hby d12_16) hr
  · show Q_12 Z a1 h0 n0 _ T44.heap _
    rw [e44]
    exact ⟨rfl, N0, rfl⟩
theorem d15_0 : decode jdk_21_method_6_code 0 = .ok (.iinc 0 1, 3) := by decide +kernel
theorem d15_3 : decode jdk_21_method_6_code 3 = .ok (.iload_n 0, 1) := by decide +kernel
theorem d15_4 : decode jdk_21_method_6_code 4 = .ok (.iload_n 1, 1) := by decide +kernel
theorem d15_5 : decode jdk_21_method_6_code 5 = .ok (.if_icmp .lt 5, 3) := by decide +kernel
theorem d15_10 : decode jdk_21_method_6_code 10 = .ok (.iload_n 0, 1) := by decide +kernel
theorem d15_11 : decode jdk_21_method_6_code 11 = .ok (.ireturn, 1) := by decide +kernel
theorem ef_15 (m : MethodId) (x0 : Int32) (x1 : Int32) : entryFrame m #[(.int x0), (.int x1)] 2 = mkF m 0 #[.val (.int x0), .val (.int x1)] [] := by first | (simp [entryFrame, mkF, argsToLocals, Value.category]; done) | rfl
def Q_15 (Z : State)  (h0 : Heap) (n0 : Nat) (v : Option Value) (h : Heap) (L : List Loc) : Prop := v = some (.int 1) ∧ Fr n0 L ∧ h = h0
set_option maxRecDepth 65536 in
set_option maxHeartbeats 40000000 in
theorem rm_15 (l : Launch) (Z : State) (a0 : Array Value) (hw : ∀ d ∈ tables_1, d.before a0 Z = true) (ws : List Jvm.Cond)  (h0 : Heap) (n0 : Nat) (Z0 : n0 ≤ h0.size)  :
    MetFree l (⟨"java/util/ArrayDeque", "inc", "(II)I"⟩ : MethodName) (head1 (Jvm.Cond.code (⟨"java/util/ArrayDeque", "inc", "(II)I"⟩ : MethodName) jdk_21_method_6_code 2 (some .int) :: ws) ({ frames := 0, cells := 0, slots := 0, locals := 0 } : Room)) (fun a U => a = #[(.int (0 : Int32)), (.int (17 : Int32))] ∧ Z.Warmed39 U.vm ∧ U.heap = h0) (fun _ _ _ _ _ => True) (fun _ U o U' => ∃ v L, o = .returned v ∧ Q_15 Z  h0 n0 v U'.heap L ∧ FrameEnd U o U' L ({ frames := 0, cells := 0, slots := 0, locals := 0 } : Room).cells ({ frames := 0, cells := 0, slots := 0, locals := 0 } : Room).slots) := by
  refine MetFree.of_bodySF (plainFor_of_name pn_java_util_ArrayDeque) hisR ?_
  intro p e s m args below meth c s₁ Bd hml0 hP hK
  obtain ⟨rfl, hZ, hh⟩ := hP
  have hx := Bd.exec
  have hby := Bd.bytes
  have hml : c.maxLocals = 2 := hml0
  have hown : s.vm.findClass "java/util/ArrayDeque" = some m.cls := findClass_of_methodNamed Bd.named
  have hnm := (name_of_methodNamed Bd.named Bd.method).1
  have X0 : Stand p l e ({ frames := 0, cells := 0, slots := 0, locals := 0 } : Room) s m #[(.int (0 : Int32)), (.int (17 : Int32))] below meth c s₁ [] 0 0 := Stand.of_body Bd
  have e0 : s₁.heap = h0 := by rw [← hh, Bd.state]; rfl
  have N0 := Fr.nil n0
  have pw0 : ∀ t, Steps p.tables e below (s₁.setTop (mkF m 0 #[.val (.int (0 : Int32)), .val (.int (17 : Int32))] [])) t → Steps p.tables e below (s₁.setTop (entryFrame m #[(.int (0 : Int32)), (.int (17 : Int32))] 2)) t := fun t k => castTop (ef_15 m (0 : Int32) (17 : Int32)) k
  have K0 : Keep h0 h0 [] := Keep.refl h0 []
  obtain ⟨fs, hr, hrun, hended, hW, hsame⟩ := X0.leave (v := some (.int (1 : Int32))) (fun h => by rw [Bd.returns] at h; cases h)
  refine ⟨_, _, pw0 _ ?_, hrun, hended, _, _, rfl, ?_, ⟨_, rfl⟩, hW, hsame.mono (by decide) (by decide)⟩
  · skip
    refine XS.iinc X0.here hx rfl (hb hby d15_0) rfl (l' := #[.val (.int (1 : Int32)), .val (.int (17 : Int32))]) rfl ?_
    show Steps p.tables e below (s₁.setTop (mkF m 3 #[.val (.int (1 : Int32)), .val (.int (17 : Int32))] [])) _
    refine XS.iloadN X0.here hx rfl (hb hby d15_3) rfl ?_
    show Steps p.tables e below (s₁.setTop (mkF m 4 #[.val (.int (1 : Int32)), .val (.int (17 : Int32))] [(.int (1 : Int32))])) _
    refine XS.iloadN X0.here hx rfl (hb hby d15_4) rfl ?_
    show Steps p.tables e below (s₁.setTop (mkF m 5 #[.val (.int (1 : Int32)), .val (.int (17 : Int32))] [(.int (17 : Int32)), (.int (1 : Int32))])) _
    refine XS.icmpYes X0.here hx rfl (pc0 := 5) (pc' := 10) rfl (hb hby d15_5) rfl (tlt (by decide : (1 : Int32) < (17 : Int32))).1 (by decide) (by decide) ?_
    show Steps p.tables e below (s₁.setTop (mkF m 10 #[.val (.int (1 : Int32)), .val (.int (17 : Int32))] [])) _
    refine XS.iloadN X0.here hx rfl (hb hby d15_10) rfl ?_
    show Steps p.tables e below (s₁.setTop (mkF m 11 #[.val (.int (1 : Int32)), .val (.int (17 : Int32))] [(.int (1 : Int32))])) _
    exact retI X0 hx Bd.returns (hb hby d15_11) hr
  · show Q_15 Z  h0 n0 _ s₁.heap _
    rw [e0]
    exact ⟨rfl, N0, rfl⟩
theorem d17_0 : decode jdk_21_method_9_code 0 = .ok (.iload_n 0, 1) := by decide +kernel
theorem d17_1 : decode jdk_21_method_9_code 1 = .ok (.iload_n 1, 1) := by decide +kernel
theorem d17_2 : decode jdk_21_method_9_code 2 = .ok (.isub, 1) := by decide +kernel
theorem d17_3 : decode jdk_21_method_9_code 3 = .ok (.dup, 1) := by decide +kernel
theorem d17_4 : decode jdk_21_method_9_code 4 = .ok (.istore_n 0, 1) := by decide +kernel
theorem d17_5 : decode jdk_21_method_9_code 5 = .ok (.ifCond .ge 7, 3) := by decide +kernel
theorem d17_12 : decode jdk_21_method_9_code 12 = .ok (.iload_n 0, 1) := by decide +kernel
theorem d17_13 : decode jdk_21_method_9_code 13 = .ok (.ireturn, 1) := by decide +kernel
theorem ef_17 (m : MethodId) (x0 : Int32) (x1 : Int32) (x2 : Int32) : entryFrame m #[(.int x0), (.int x1), (.int x2)] 3 = mkF m 0 #[.val (.int x0), .val (.int x1), .val (.int x2)] [] := by first | (simp [entryFrame, mkF, argsToLocals, Value.category]; done) | rfl
def Q_17 (Z : State)  (h0 : Heap) (n0 : Nat) (v : Option Value) (h : Heap) (L : List Loc) : Prop := v = some (.int 1) ∧ Fr n0 L ∧ h = h0
set_option maxRecDepth 65536 in
set_option maxHeartbeats 40000000 in
theorem rm_17 (l : Launch) (Z : State) (a0 : Array Value) (hw : ∀ d ∈ tables_1, d.before a0 Z = true) (ws : List Jvm.Cond)  (h0 : Heap) (n0 : Nat) (Z0 : n0 ≤ h0.size)  :
    MetFree l (⟨"java/util/ArrayDeque", "sub", "(III)I"⟩ : MethodName) (head1 (Jvm.Cond.code (⟨"java/util/ArrayDeque", "sub", "(III)I"⟩ : MethodName) jdk_21_method_9_code 3 (some .int) :: ws) ({ frames := 0, cells := 0, slots := 0, locals := 0 } : Room)) (fun a U => a = #[(.int (1 : Int32)), (.int (0 : Int32)), (.int (17 : Int32))] ∧ Z.Warmed39 U.vm ∧ U.heap = h0) (fun _ _ _ _ _ => True) (fun _ U o U' => ∃ v L, o = .returned v ∧ Q_17 Z  h0 n0 v U'.heap L ∧ FrameEnd U o U' L ({ frames := 0, cells := 0, slots := 0, locals := 0 } : Room).cells ({ frames := 0, cells := 0, slots := 0, locals := 0 } : Room).slots) := by
  refine MetFree.of_bodySF (plainFor_of_name pn_java_util_ArrayDeque) hisR ?_
  intro p e s m args below meth c s₁ Bd hml0 hP hK
  obtain ⟨rfl, hZ, hh⟩ := hP
  have hx := Bd.exec
  have hby := Bd.bytes
  have hml : c.maxLocals = 3 := hml0
  have hown : s.vm.findClass "java/util/ArrayDeque" = some m.cls := findClass_of_methodNamed Bd.named
  have hnm := (name_of_methodNamed Bd.named Bd.method).1
  have X0 : Stand p l e ({ frames := 0, cells := 0, slots := 0, locals := 0 } : Room) s m #[(.int (1 : Int32)), (.int (0 : Int32)), (.int (17 : Int32))] below meth c s₁ [] 0 0 := Stand.of_body Bd
  have e0 : s₁.heap = h0 := by rw [← hh, Bd.state]; rfl
  have N0 := Fr.nil n0
  have pw0 : ∀ t, Steps p.tables e below (s₁.setTop (mkF m 0 #[.val (.int (1 : Int32)), .val (.int (0 : Int32)), .val (.int (17 : Int32))] [])) t → Steps p.tables e below (s₁.setTop (entryFrame m #[(.int (1 : Int32)), (.int (0 : Int32)), (.int (17 : Int32))] 3)) t := fun t k => castTop (ef_17 m (1 : Int32) (0 : Int32) (17 : Int32)) k
  have K0 : Keep h0 h0 [] := Keep.refl h0 []
  obtain ⟨fs, hr, hrun, hended, hW, hsame⟩ := X0.leave (v := some (.int (1 : Int32))) (fun h => by rw [Bd.returns] at h; cases h)
  refine ⟨_, _, pw0 _ ?_, hrun, hended, _, _, rfl, ?_, ⟨_, rfl⟩, hW, hsame.mono (by decide) (by decide)⟩
  · skip
    refine XS.iloadN X0.here hx rfl (hb hby d17_0) rfl ?_
    show Steps p.tables e below (s₁.setTop (mkF m 1 #[.val (.int (1 : Int32)), .val (.int (0 : Int32)), .val (.int (17 : Int32))] [(.int (1 : Int32))])) _
    refine XS.iloadN X0.here hx rfl (hb hby d17_1) rfl ?_
    show Steps p.tables e below (s₁.setTop (mkF m 2 #[.val (.int (1 : Int32)), .val (.int (0 : Int32)), .val (.int (17 : Int32))] [(.int (0 : Int32)), (.int (1 : Int32))])) _
    refine XS.isub X0.here hx rfl (hb hby d17_2) rfl ?_
    show Steps p.tables e below (s₁.setTop (mkF m 3 #[.val (.int (1 : Int32)), .val (.int (0 : Int32)), .val (.int (17 : Int32))] [(.int (1 : Int32))])) _
    refine XS.dup X0.here hx rfl (hb hby d17_3) rfl rfl ?_
    show Steps p.tables e below (s₁.setTop (mkF m 4 #[.val (.int (1 : Int32)), .val (.int (0 : Int32)), .val (.int (17 : Int32))] [(.int (1 : Int32)), (.int (1 : Int32))])) _
    refine XS.istoreN X0.here hx rfl (hb hby d17_4) rfl (l' := #[.val (.int (1 : Int32)), .val (.int (0 : Int32)), .val (.int (17 : Int32))]) rfl ?_
    show Steps p.tables e below (s₁.setTop (mkF m 5 #[.val (.int (1 : Int32)), .val (.int (0 : Int32)), .val (.int (17 : Int32))] [(.int (1 : Int32))])) _
    refine XS.ifYes X0.here hx rfl (pc0 := 5) (pc' := 12) rfl (hb hby d17_5) rfl ((if0 _ _).trans (flt (by decide : ¬ ((1 : Int32) < (0 : Int32)))).2.1) (by decide) (by decide) ?_
    show Steps p.tables e below (s₁.setTop (mkF m 12 #[.val (.int (1 : Int32)), .val (.int (0 : Int32)), .val (.int (17 : Int32))] [])) _
    refine XS.iloadN X0.here hx rfl (hb hby d17_12) rfl ?_
    show Steps p.tables e below (s₁.setTop (mkF m 13 #[.val (.int (1 : Int32)), .val (.int (0 : Int32)), .val (.int (17 : Int32))] [(.int (1 : Int32))])) _
    exact retI X0 hx Bd.returns (hb hby d17_13) hr
  · show Q_17 Z  h0 n0 _ s₁.heap _
    rw [e0]
    exact ⟨rfl, N0, rfl⟩
theorem d16_0 : decode jdk_21_method_37_code 0 = .ok (.aload_n 0, 1) := by decide +kernel
theorem d16_1 : decode jdk_21_method_37_code 1 = .ok (.getfield 20, 3) := by decide +kernel
theorem d16_4 : decode jdk_21_method_37_code 4 = .ok (.aload_n 0, 1) := by decide +kernel
theorem d16_5 : decode jdk_21_method_37_code 5 = .ok (.getfield 24, 3) := by decide +kernel
theorem d16_8 : decode jdk_21_method_37_code 8 = .ok (.aload_n 0, 1) := by decide +kernel
theorem d16_9 : decode jdk_21_method_37_code 9 = .ok (.getfield 3, 3) := by decide +kernel
theorem d16_12 : decode jdk_21_method_37_code 12 = .ok (.arraylength, 1) := by decide +kernel
theorem d16_13 : decode jdk_21_method_37_code 13 = .ok (.invokestatic 127, 3) := by decide +kernel
theorem d16_16 : decode jdk_21_method_37_code 16 = .ok (.ireturn, 1) := by decide +kernel
theorem ef_16 (m : MethodId) (x0 : Addr) : entryFrame m #[(.ref x0)] 1 = mkF m 0 #[.val (.ref x0)] [] := by first | (simp [entryFrame, mkF, argsToLocals, Value.category]; done) | rfl
def Q_16 (Z : State) (a1 : Addr) (ea : Addr) (kk : ClassId) (x_ : Addr) (h0 : Heap) (n0 : Nat) (v : Option Value) (h : Heap) (L : List Loc) : Prop := v = some (.int 1) ∧ Fr n0 L ∧ h = h0
set_option maxRecDepth 65536 in
set_option maxHeartbeats 40000000 in
theorem rm_16 (l : Launch) (Z : State) (a0 : Array Value) (hw : ∀ d ∈ tables_1, d.before a0 Z = true) (ws : List Jvm.Cond) (a1 : Addr) (ea : Addr) (kk : ClassId) (x_ : Addr) (h0 : Heap) (n0 : Nat) (Z0 : n0 ≤ h0.size) (E_a1 : Exa Z h0 a1 "java/util/ArrayDeque") (F_elements : Fld Z h0 a1 "java/util/ArrayDeque" "elements" "[Ljava/lang/Object;" (.ref ea)) (F_head : Fld Z h0 a1 "java/util/ArrayDeque" "head" "I" (.int (0 : Int32))) (F_tail : Fld Z h0 a1 "java/util/ArrayDeque" "tail" "I" (.int (1 : Int32))) (V_ea : Arv Z h0 ea kk (.object "java/lang/Object") (17 : Int32) [.ref x_] .null) (O_ea : Ovr Z kk "java/lang/Object") (g_a1 : n0 ≤ a1) (g_ea : n0 ≤ ea) (hne : a1 ≠ ea) :
    MetFree l (⟨"java/util/ArrayDeque", "size", "()I"⟩ : MethodName) (head1 (Jvm.Cond.code (⟨"java/util/ArrayDeque", "size", "()I"⟩ : MethodName) jdk_21_method_37_code 1 (some .int) :: ws) ({ frames := 1, cells := 0, slots := 0, locals := 14 } : Room)) (fun a U => a = #[(.ref a1)] ∧ Z.Warmed39 U.vm ∧ U.heap = h0) (fun _ _ _ _ _ => True) (fun _ U o U' => ∃ v L, o = .returned v ∧ Q_16 Z a1 ea kk x_ h0 n0 v U'.heap L ∧ FrameEnd U o U' L ({ frames := 1, cells := 0, slots := 0, locals := 14 } : Room).cells ({ frames := 1, cells := 0, slots := 0, locals := 14 } : Room).slots) := by
  refine MetFree.of_bodySF (plainFor_of_name pn_java_util_ArrayDeque) hisR ?_
  intro p e s m args below meth c s₁ Bd hml0 hP hK
  obtain ⟨rfl, hZ, hh⟩ := hP
  have hx := Bd.exec
  have hby := Bd.bytes
  have hml : c.maxLocals = 1 := hml0
  have hown : s.vm.findClass "java/util/ArrayDeque" = some m.cls := findClass_of_methodNamed Bd.named
  have hnm := (name_of_methodNamed Bd.named Bd.method).1
  have X0 : Stand p l e ({ frames := 1, cells := 0, slots := 0, locals := 14 } : Room) s m #[(.ref a1)] below meth c s₁ [] 0 0 := Stand.of_body Bd
  have e0 : s₁.heap = h0 := by rw [← hh, Bd.state]; rfl
  have N0 := Fr.nil n0
  have pw0 : ∀ t, Steps p.tables e below (s₁.setTop (mkF m 0 #[.val (.ref a1)] [])) t → Steps p.tables e below (s₁.setTop (entryFrame m #[(.ref a1)] 1)) t := fun t k => castTop (ef_16 m a1) k
  have K0 : Keep h0 h0 [] := Keep.refl h0 []
  obtain ⟨T45, X45, e45, st45⟩ := getF X0 hx hZ hown (host := "") (Or.inl (hw _ (List.mem_of_getElem? (i := 95) rfl))) Via.refl e0 F_tail (g := (mkF m 1 #[.val (.ref a1)] [(.ref a1)])) rfl rfl (hb hby d16_1)
  obtain ⟨T46, X46, e46, st46⟩ := getF X45 hx hZ hown (host := "") (Or.inl (hw _ (List.mem_of_getElem? (i := 93) rfl))) Via.refl e45 F_head (g := (mkF m 5 #[.val (.ref a1)] [(.ref a1), (.int (1 : Int32))])) rfl rfl (hb hby d16_5)
  obtain ⟨T47, X47, e47, st47⟩ := getF X46 hx hZ hown (host := "") (Or.inl (hw _ (List.mem_of_getElem? (i := 42) rfl))) Via.refl e46 F_elements (g := (mkF m 9 #[.val (.ref a1)] [(.ref a1), (.int (0 : Int32)), (.int (1 : Int32))])) rfl rfl (hb hby d16_9)
  obtain ⟨c48, Arc48, qc48, Sc48, Mc48, Hsc48, Gc48⟩ := id V_ea
  obtain ⟨_, _, ⟨T49, L49, k49, n49⟩, -, X49, ⟨Lc49, hQ49, l49, y49, z49⟩, st49⟩ := Jvm.LawKit.callS X47 hx (y := (⟨"java/util/ArrayDeque", "sub", "(III)I"⟩ : MethodName)) hown (mvT hZ (hw _ (List.mem_of_getElem? (i := 125) rfl))) (mvT hZ (hw _ (List.mem_of_getElem? (i := 126) rfl))) (mvT hZ (hw _ (List.mem_of_getElem? (i := 29) rfl))) (mvT hZ (hw _ (List.mem_of_getElem? (i := 127) rfl))) (by decide) (backOf (W := 0) (rm_17 l Z a0 hw []  h0 n0 Z0 ) hZ (hw _ (List.mem_of_getElem? (i := 127) rfl)) (hw _ (List.mem_of_getElem? (i := 29) rfl)) (by decide) (by decide)) (g := (mkF m 13 #[.val (.ref a1)] [(.int (17 : Int32)), (.int (0 : Int32)), (.int (1 : Int32))])) rfl (by rw [hml]; rfl) (argsL := [(.int (1 : Int32)), (.int (0 : Int32)), (.int (17 : Int32))]) (rest := []) (lenOf pd__III_I rfl) rfl (by show 2 * 0 + _ ≤ _; exact Nat.le_of_eq rfl) (hb hby d16_13) (fun _ _ => ⟨rfl, e47, (by decide : 0 + 0 ≤ _), (by decide : 0 + 0 ≤ _)⟩)
  dsimp only [Pt.U, Pt.locs, Pt.cells, Pt.slots] at X49 l49 y49 z49 st49 hQ49
  subst l49 y49 z49
  obtain ⟨rfl, N49q, e49q⟩ := hQ49
  have N49 := Fr.app N0 N49q
  obtain ⟨fs, hr, hrun, hended, hW, hsame⟩ := X49.leave (v := some (.int (1 : Int32))) (fun h => by rw [Bd.returns] at h; cases h)
  refine ⟨_, _, pw0 _ ?_, hrun, hended, _, _, rfl, ?_, ⟨_, rfl⟩, hW, hsame.mono (by decide) (by decide)⟩
  · skip
    refine XS.aloadN X0.here hx rfl (hb hby d16_0) rfl rfl ?_
    show Steps p.tables e below (s₁.setTop (mkF m 1 #[.val (.ref a1)] [(.ref a1)])) _
    refine st45 _ ?_
    show Steps p.tables e below (T45.setTop (mkF m 4 #[.val (.ref a1)] [(.int (1 : Int32))])) _
    refine XS.aloadN X45.here hx rfl (hb hby d16_4) rfl rfl ?_
    show Steps p.tables e below (T45.setTop (mkF m 5 #[.val (.ref a1)] [(.ref a1), (.int (1 : Int32))])) _
    refine st46 _ ?_
    show Steps p.tables e below (T46.setTop (mkF m 8 #[.val (.ref a1)] [(.int (0 : Int32)), (.int (1 : Int32))])) _
    refine XS.aloadN X46.here hx rfl (hb hby d16_8) rfl rfl ?_
    show Steps p.tables e below (T46.setTop (mkF m 9 #[.val (.ref a1)] [(.ref a1), (.int (0 : Int32)), (.int (1 : Int32))])) _
    refine st47 _ ?_
    show Steps p.tables e below (T47.setTop (mkF m 12 #[.val (.ref a1)] [(.ref ea), (.int (0 : Int32)), (.int (1 : Int32))])) _
    refine X47.arraylength hx (by rw [e47]; exact Arc48.1) (State.isArrayOf_alike hZ.alike Arc48.2.1) (g := (mkF m 12 #[.val (.ref a1)] [(.ref ea), (.int (0 : Int32)), (.int (1 : Int32))])) rfl rfl (hb hby d16_12) _ ?_
    rw [len_of Sc48 Mc48]
    show Steps p.tables e below (T47.setTop (mkF m 13 #[.val (.ref a1)] [(.int (17 : Int32)), (.int (0 : Int32)), (.int (1 : Int32))])) _
    refine st49 _ ?_
    show Steps p.tables e below (T49.setTop (mkF m 16 #[.val (.ref a1)] [(.int (1 : Int32))])) _
    exact retI X49 hx Bd.returns (hb hby d16_16) hr
  · show Q_16 Z a1 ea kk x_ h0 n0 _ T49.heap _
    rw [e49q]
    exact ⟨rfl, N49, rfl⟩
theorem d14_0 : decode jdk_21_method_13_code 0 = .ok (.aload_n 1, 1) := by decide +kernel
theorem d14_1 : decode jdk_21_method_13_code 1 = .ok (.ifnonnull 11, 3) := by decide +kernel
theorem d14_12 : decode jdk_21_method_13_code 12 = .ok (.aload_n 0, 1) := by decide +kernel
theorem d14_13 : decode jdk_21_method_13_code 13 = .ok (.getfield 3, 3) := by decide +kernel
theorem d14_16 : decode jdk_21_method_13_code 16 = .ok (.astore_n 2, 1) := by decide +kernel
theorem d14_17 : decode jdk_21_method_13_code 17 = .ok (.aload_n 2, 1) := by decide +kernel
theorem d14_18 : decode jdk_21_method_13_code 18 = .ok (.aload_n 0, 1) := by decide +kernel
theorem d14_19 : decode jdk_21_method_13_code 19 = .ok (.getfield 20, 3) := by decide +kernel
theorem d14_22 : decode jdk_21_method_13_code 22 = .ok (.aload_n 1, 1) := by decide +kernel
theorem d14_23 : decode jdk_21_method_13_code 23 = .ok (.aastore, 1) := by decide +kernel
theorem d14_24 : decode jdk_21_method_13_code 24 = .ok (.aload_n 0, 1) := by decide +kernel
theorem d14_25 : decode jdk_21_method_13_code 25 = .ok (.getfield 24, 3) := by decide +kernel
theorem d14_28 : decode jdk_21_method_13_code 28 = .ok (.aload_n 0, 1) := by decide +kernel
theorem d14_29 : decode jdk_21_method_13_code 29 = .ok (.aload_n 0, 1) := by decide +kernel
theorem d14_30 : decode jdk_21_method_13_code 30 = .ok (.getfield 20, 3) := by decide +kernel
theorem d14_33 : decode jdk_21_method_13_code 33 = .ok (.aload_n 2, 1) := by decide +kernel
theorem d14_34 : decode jdk_21_method_13_code 34 = .ok (.arraylength, 1) := by decide +kernel
theorem d14_35 : decode jdk_21_method_13_code 35 = .ok (.invokestatic 74, 3) := by decide +kernel
theorem d14_38 : decode jdk_21_method_13_code 38 = .ok (.dup_x1, 1) := by decide +kernel
theorem d14_39 : decode jdk_21_method_13_code 39 = .ok (.putfield 20, 3) := by decide +kernel
theorem d14_42 : decode jdk_21_method_13_code 42 = .ok (.if_icmp .ne 8, 3) := by decide +kernel
theorem d14_50 : decode jdk_21_method_13_code 50 = .ok (.return_, 1) := by decide +kernel
theorem ef_14 (m : MethodId) (x0 : Addr) (x1 : Addr) : entryFrame m #[(.ref x0), (.ref x1)] 3 = mkF m 0 #[.val (.ref x0), .val (.ref x1), .unset] [] := by first | (simp [entryFrame, mkF, argsToLocals, Value.category]; done) | rfl
def Q_14 (Z : State) (a1 : Addr) (a2 : Addr) (ea : Addr) (kk : ClassId) (h0 : Heap) (n0 : Nat) (v : Option Value) (h : Heap) (L : List Loc) : Prop := v = none ∧ Fr n0 L ∧ Keep h0 h [a1, ea] ∧ Exa Z h a1 "java/util/ArrayDeque" ∧ Fld Z h a1 "java/util/ArrayDeque" "elements" "[Ljava/lang/Object;" (.ref ea) ∧ Fld Z h a1 "java/util/ArrayDeque" "head" "I" (.int (0 : Int32)) ∧ Fld Z h a1 "java/util/ArrayDeque" "tail" "I" (.int (1 : Int32)) ∧ Arv Z h ea kk (.object "java/lang/Object") (17 : Int32) [.ref a2] .null
set_option maxRecDepth 65536 in
set_option maxHeartbeats 40000000 in
theorem rm_14 (l : Launch) (Z : State) (a0 : Array Value) (hw : ∀ d ∈ tables_1, d.before a0 Z = true) (ws : List Jvm.Cond) (a1 : Addr) (a2 : Addr) (ea : Addr) (kk : ClassId) (h0 : Heap) (n0 : Nat) (Z0 : n0 ≤ h0.size) (E_a1 : Exa Z h0 a1 "java/util/ArrayDeque") (F_elements : Fld Z h0 a1 "java/util/ArrayDeque" "elements" "[Ljava/lang/Object;" (.ref ea)) (F_head : Fld Z h0 a1 "java/util/ArrayDeque" "head" "I" (.int (0 : Int32))) (F_tail : Fld Z h0 a1 "java/util/ArrayDeque" "tail" "I" (.int (0 : Int32))) (V_ea : Arv Z h0 ea kk (.object "java/lang/Object") (17 : Int32) [.null] .null) (O_ea : Ovr Z kk "java/lang/Object") (g_a1 : n0 ≤ a1) (g_ea : n0 ≤ ea) (hne : a1 ≠ ea) (E_a2 : Exa Z h0 a2 "java/lang/Long") :
    MetFree l (⟨"java/util/ArrayDeque", "addLast", "(Ljava/lang/Object;)V"⟩ : MethodName) (head1 (Jvm.Cond.code (⟨"java/util/ArrayDeque", "addLast", "(Ljava/lang/Object;)V"⟩ : MethodName) jdk_21_method_13_code 3 none :: ws) ({ frames := 1, cells := 0, slots := 0, locals := 15 } : Room)) (fun a U => a = #[(.ref a1), (.ref a2)] ∧ Z.Warmed39 U.vm ∧ U.heap = h0) (fun _ _ _ _ _ => True) (fun _ U o U' => ∃ v L, o = .returned v ∧ Q_14 Z a1 a2 ea kk h0 n0 v U'.heap L ∧ FrameEnd U o U' L ({ frames := 1, cells := 0, slots := 0, locals := 15 } : Room).cells ({ frames := 1, cells := 0, slots := 0, locals := 15 } : Room).slots) := by
  refine MetFree.of_bodySF (plainFor_of_name pn_java_util_ArrayDeque) hisR ?_
  intro p e s m args below meth c s₁ Bd hml0 hP hK
  obtain ⟨rfl, hZ, hh⟩ := hP
  have hx := Bd.exec
  have hby := Bd.bytes
  have hml : c.maxLocals = 3 := hml0
  have hown : s.vm.findClass "java/util/ArrayDeque" = some m.cls := findClass_of_methodNamed Bd.named
  have hnm := (name_of_methodNamed Bd.named Bd.method).1
  have X0 : Stand p l e ({ frames := 1, cells := 0, slots := 0, locals := 15 } : Room) s m #[(.ref a1), (.ref a2)] below meth c s₁ [] 0 0 := Stand.of_body Bd
  have e0 : s₁.heap = h0 := by rw [← hh, Bd.state]; rfl
  have N0 := Fr.nil n0
  have pw0 : ∀ t, Steps p.tables e below (s₁.setTop (mkF m 0 #[.val (.ref a1), .val (.ref a2), .unset] [])) t → Steps p.tables e below (s₁.setTop (entryFrame m #[(.ref a1), (.ref a2)] 3)) t := fun t k => castTop (ef_14 m a1 a2) k
  have K0 : Keep h0 h0 [a1, ea] := Keep.refl h0 [a1, ea]
  obtain ⟨T50, X50, e50, st50⟩ := getF X0 hx hZ hown (host := "") (Or.inl (hw _ (List.mem_of_getElem? (i := 42) rfl))) Via.refl e0 F_elements (g := (mkF m 13 #[.val (.ref a1), .val (.ref a2), .unset] [(.ref a1)])) rfl rfl (hb hby d14_13)
  obtain ⟨T51, X51, e51, st51⟩ := getF X50 hx hZ hown (host := "") (Or.inl (hw _ (List.mem_of_getElem? (i := 95) rfl))) Via.refl e50 F_tail (g := (mkF m 19 #[.val (.ref a1), .val (.ref a2), .val (.ref ea)] [(.ref a1), (.ref ea)])) rfl rfl (hb hby d14_19)
  obtain ⟨c52, Arc52, qc52, Sc52, Mc52, Hsc52, Gc52⟩ := id V_ea
  have hinc52 : ¬ ((0 : Int32) < 0 ∨ c52.slots.size ≤ ((0 : Int32)).toNatClampNeg) := inb_of Sc52 ⟨by decide, by decide⟩
  obtain ⟨T53, h53, X53, e53, W53, st53⟩ := stR X51 hx hZ e51 Arc52 (j := (0 : Int32)) hinc52 rfl (Sto.ofV Arc52 qc52 O_ea (Ins.of_exa E_a2 (hw _ (List.mem_of_getElem? (i := 113) rfl)))) (g := (mkF m 23 #[.val (.ref a1), .val (.ref a2), .val (.ref ea)] [(.ref a2), (.int (0 : Int32)), (.ref ea)])) rfl rfl (hb hby d14_23)
  have V53 := Arv.set Arc52 qc52 Sc52 Mc52 Hsc52 Gc52 rfl W53 0 rfl (Nat.le_of_ble_eq_true rfl)
  have K53 : Keep h0 h53 [a1, ea] := K0.wr W53 (Or.inl (List.mem_of_getElem? (i := 1) rfl))
  have N53 := Fr.snoc X53 N0 g_ea
  have Z53 : n0 ≤ h53.size := (Nat.le_trans Z0 (Nat.le_of_eq (Wr.size W53).symm))
  obtain ⟨T54, X54, e54, st54⟩ := getF X53 hx hZ hown (host := "") (Or.inl (hw _ (List.mem_of_getElem? (i := 93) rfl))) Via.refl e53 (F_head.other W53 (Or.inl hne)) (g := (mkF m 25 #[.val (.ref a1), .val (.ref a2), .val (.ref ea)] [(.ref a1)])) rfl rfl (hb hby d14_25)
  obtain ⟨T55, X55, e55, st55⟩ := getF X54 hx hZ hown (host := "") (Or.inl (hw _ (List.mem_of_getElem? (i := 95) rfl))) Via.refl e54 (F_tail.other W53 (Or.inl hne)) (g := (mkF m 30 #[.val (.ref a1), .val (.ref a2), .val (.ref ea)] [(.ref a1), (.ref a1), (.int (0 : Int32))])) rfl rfl (hb hby d14_30)
  obtain ⟨c56, Arc56, qc56, Sc56, Mc56, Hsc56, Gc56⟩ := id V53
  obtain ⟨_, _, ⟨T57, L57, k57, n57⟩, -, X57, ⟨Lc57, hQ57, l57, y57, z57⟩, st57⟩ := Jvm.LawKit.callS X55 hx (y := (⟨"java/util/ArrayDeque", "inc", "(II)I"⟩ : MethodName)) hown (mvT hZ (hw _ (List.mem_of_getElem? (i := 114) rfl))) (mvT hZ (hw _ (List.mem_of_getElem? (i := 115) rfl))) (mvT hZ (hw _ (List.mem_of_getElem? (i := 29) rfl))) (mvT hZ (hw _ (List.mem_of_getElem? (i := 116) rfl))) (by decide) (backOf (W := 2) (rm_15 l Z a0 hw []  h53 n0 Z53 ) hZ (hw _ (List.mem_of_getElem? (i := 116) rfl)) (hw _ (List.mem_of_getElem? (i := 29) rfl)) (by decide) (by decide)) (g := (mkF m 35 #[.val (.ref a1), .val (.ref a2), .val (.ref ea)] [(.int (17 : Int32)), (.int (0 : Int32)), (.ref a1), (.int (0 : Int32))])) rfl (by rw [hml]; rfl) (argsL := [(.int (0 : Int32)), (.int (17 : Int32))]) (rest := [(.ref a1), (.int (0 : Int32))]) (lenOf pd__II_I rfl) rfl (by show 2 * 0 + _ ≤ _; exact Nat.le_of_eq rfl) (hb hby d14_35) (fun _ _ => ⟨rfl, e55, (by decide : 0 + 0 ≤ _), (by decide : 0 + 0 ≤ _)⟩)
  dsimp only [Pt.U, Pt.locs, Pt.cells, Pt.slots] at X57 l57 y57 z57 st57 hQ57
  subst l57 y57 z57
  obtain ⟨rfl, N57q, e57q⟩ := hQ57
  have N57 := Fr.app N53 N57q
  obtain ⟨T58, h58, X58, e58, W58, st58⟩ := putF X57 hx hZ hown (host := "") (Or.inl (hw _ (List.mem_of_getElem? (i := 95) rfl))) Via.refl e57q (F_tail.other W53 (Or.inl hne)) (E_a1.wr W53) (Or.inl (hw _ (List.mem_of_getElem? (i := 96) rfl))) (hw _ (List.mem_of_getElem? (i := 28) rfl)) (ty := .int) (by decide) rfl rfl (g := (mkF m 39 #[.val (.ref a1), .val (.ref a2), .val (.ref ea)] [(.int (1 : Int32)), (.ref a1), (.int (1 : Int32)), (.int (0 : Int32))])) rfl rfl (hb hby d14_39)
  have Fw58 := (F_tail.other W53 (Or.inl hne)).same W58
  have K58 : Keep h0 h58 [a1, ea] := K53.wr W58 (Or.inl (List.mem_of_getElem? (i := 0) rfl))
  have N58 := Fr.snoc X58 N57 g_a1
  have Z58 : n0 ≤ h58.size := (Nat.le_trans Z53 (Nat.le_of_eq (Wr.size W58).symm))
  obtain ⟨fs, hr, hrun, hended, hW, hsame⟩ := X58.leave (v := none) (fun _ => rfl)
  refine ⟨_, _, pw0 _ ?_, hrun, hended, _, _, rfl, ?_, ⟨_, rfl⟩, hW, hsame.mono (by decide) (by decide)⟩
  · skip
    refine XS.aloadN X0.here hx rfl (hb hby d14_0) rfl rfl ?_
    show Steps p.tables e below (s₁.setTop (mkF m 1 #[.val (.ref a1), .val (.ref a2), .unset] [(.ref a2)])) _
    refine XS.ifnonnullYes X0.here hx rfl (pc0 := 1) (pc' := 12) rfl (hb hby d14_1) rfl (by decide) (by decide) ?_
    show Steps p.tables e below (s₁.setTop (mkF m 12 #[.val (.ref a1), .val (.ref a2), .unset] [])) _
    refine XS.aloadN X0.here hx rfl (hb hby d14_12) rfl rfl ?_
    show Steps p.tables e below (s₁.setTop (mkF m 13 #[.val (.ref a1), .val (.ref a2), .unset] [(.ref a1)])) _
    refine st50 _ ?_
    show Steps p.tables e below (T50.setTop (mkF m 16 #[.val (.ref a1), .val (.ref a2), .unset] [(.ref ea)])) _
    refine XS.astoreN X50.here hx rfl (hb hby d14_16) rfl rfl (l' := #[.val (.ref a1), .val (.ref a2), .val (.ref ea)]) rfl ?_
    show Steps p.tables e below (T50.setTop (mkF m 17 #[.val (.ref a1), .val (.ref a2), .val (.ref ea)] [])) _
    refine XS.aloadN X50.here hx rfl (hb hby d14_17) rfl rfl ?_
    show Steps p.tables e below (T50.setTop (mkF m 18 #[.val (.ref a1), .val (.ref a2), .val (.ref ea)] [(.ref ea)])) _
    refine XS.aloadN X50.here hx rfl (hb hby d14_18) rfl rfl ?_
    show Steps p.tables e below (T50.setTop (mkF m 19 #[.val (.ref a1), .val (.ref a2), .val (.ref ea)] [(.ref a1), (.ref ea)])) _
    refine st51 _ ?_
    show Steps p.tables e below (T51.setTop (mkF m 22 #[.val (.ref a1), .val (.ref a2), .val (.ref ea)] [(.int (0 : Int32)), (.ref ea)])) _
    refine XS.aloadN X51.here hx rfl (hb hby d14_22) rfl rfl ?_
    show Steps p.tables e below (T51.setTop (mkF m 23 #[.val (.ref a1), .val (.ref a2), .val (.ref ea)] [(.ref a2), (.int (0 : Int32)), (.ref ea)])) _
    refine st53 _ ?_
    show Steps p.tables e below (T53.setTop (mkF m 24 #[.val (.ref a1), .val (.ref a2), .val (.ref ea)] [])) _
    refine XS.aloadN X53.here hx rfl (hb hby d14_24) rfl rfl ?_
    show Steps p.tables e below (T53.setTop (mkF m 25 #[.val (.ref a1), .val (.ref a2), .val (.ref ea)] [(.ref a1)])) _
    refine st54 _ ?_
    show Steps p.tables e below (T54.setTop (mkF m 28 #[.val (.ref a1), .val (.ref a2), .val (.ref ea)] [(.int (0 : Int32))])) _
    refine XS.aloadN X54.here hx rfl (hb hby d14_28) rfl rfl ?_
    show Steps p.tables e below (T54.setTop (mkF m 29 #[.val (.ref a1), .val (.ref a2), .val (.ref ea)] [(.ref a1), (.int (0 : Int32))])) _
    refine XS.aloadN X54.here hx rfl (hb hby d14_29) rfl rfl ?_
    show Steps p.tables e below (T54.setTop (mkF m 30 #[.val (.ref a1), .val (.ref a2), .val (.ref ea)] [(.ref a1), (.ref a1), (.int (0 : Int32))])) _
    refine st55 _ ?_
    show Steps p.tables e below (T55.setTop (mkF m 33 #[.val (.ref a1), .val (.ref a2), .val (.ref ea)] [(.int (0 : Int32)), (.ref a1), (.int (0 : Int32))])) _
    refine XS.aloadN X55.here hx rfl (hb hby d14_33) rfl rfl ?_
    show Steps p.tables e below (T55.setTop (mkF m 34 #[.val (.ref a1), .val (.ref a2), .val (.ref ea)] [(.ref ea), (.int (0 : Int32)), (.ref a1), (.int (0 : Int32))])) _
    refine X55.arraylength hx (by rw [e55]; exact Arc56.1) (State.isArrayOf_alike hZ.alike Arc56.2.1) (g := (mkF m 34 #[.val (.ref a1), .val (.ref a2), .val (.ref ea)] [(.ref ea), (.int (0 : Int32)), (.ref a1), (.int (0 : Int32))])) rfl rfl (hb hby d14_34) _ ?_
    rw [len_of Sc56 Mc56]
    show Steps p.tables e below (T55.setTop (mkF m 35 #[.val (.ref a1), .val (.ref a2), .val (.ref ea)] [(.int (17 : Int32)), (.int (0 : Int32)), (.ref a1), (.int (0 : Int32))])) _
    refine st57 _ ?_
    show Steps p.tables e below (T57.setTop (mkF m 38 #[.val (.ref a1), .val (.ref a2), .val (.ref ea)] [(.int (1 : Int32)), (.ref a1), (.int (0 : Int32))])) _
    refine XS.dupX1 X57.here hx rfl (hb hby d14_38) rfl rfl rfl ?_
    show Steps p.tables e below (T57.setTop (mkF m 39 #[.val (.ref a1), .val (.ref a2), .val (.ref ea)] [(.int (1 : Int32)), (.ref a1), (.int (1 : Int32)), (.int (0 : Int32))])) _
    refine st58 _ ?_
    show Steps p.tables e below (T58.setTop (mkF m 42 #[.val (.ref a1), .val (.ref a2), .val (.ref ea)] [(.int (1 : Int32)), (.int (0 : Int32))])) _
    refine XS.icmpYes X58.here hx rfl (pc0 := 42) (pc' := 50) rfl (hb hby d14_42) rfl (feq (by decide : ¬ ((0 : Int32) = (1 : Int32)))).2 (by decide) (by decide) ?_
    show Steps p.tables e below (T58.setTop (mkF m 50 #[.val (.ref a1), .val (.ref a2), .val (.ref ea)] [])) _
    exact X58.returnOut hx Bd.returns (hb hby d14_50) hr
  · show Q_14 Z a1 a2 ea kk h0 n0 _ T58.heap _
    rw [e58]
    exact ⟨rfl, N58, K58, ((E_a1.wr W53).wr W58), ((F_elements.other W53 (Or.inl hne)).other W58 (Or.inr (slot_ne (Or.inl (hw _ (List.mem_of_getElem? (i := 43) rfl))) (Or.inl (hw _ (List.mem_of_getElem? (i := 96) rfl))) (by decide) (t := (.array (.object "java/lang/Object"))) (t' := .int) (by decide) (by decide)))), ((F_head.other W53 (Or.inl hne)).other W58 (Or.inr (slot_ne (Or.inl (hw _ (List.mem_of_getElem? (i := 94) rfl))) (Or.inl (hw _ (List.mem_of_getElem? (i := 96) rfl))) (by decide) (t := .int) (t' := .int) (by decide) (by decide)))), Fw58, (V53.other W58 (Ne.symm hne))⟩
theorem d19_0 : decode jdk_21_method_54_code 0 = .ok (.iload_n 1, 1) := by decide +kernel
theorem d19_1 : decode jdk_21_method_54_code 1 = .ok (.iload_n 2, 1) := by decide +kernel
theorem d19_2 : decode jdk_21_method_54_code 2 = .ok (.if_icmp .gt 7, 3) := by decide +kernel
theorem d19_5 : decode jdk_21_method_54_code 5 = .ok (.iload_n 2, 1) := by decide +kernel
theorem d19_6 : decode jdk_21_method_54_code 6 = .ok (.goto 5, 3) := by decide +kernel
theorem d19_11 : decode jdk_21_method_54_code 11 = .ok (.istore_n 3, 1) := by decide +kernel
theorem d19_12 : decode jdk_21_method_54_code 12 = .ok (.iload_n 1, 1) := by decide +kernel
theorem d19_13 : decode jdk_21_method_54_code 13 = .ok (.iload_n 3, 1) := by decide +kernel
theorem d19_14 : decode jdk_21_method_54_code 14 = .ok (.if_icmp .ge 13, 3) := by decide +kernel
theorem d19_17 : decode jdk_21_method_54_code 17 = .ok (.aload_n 0, 1) := by decide +kernel
theorem d19_18 : decode jdk_21_method_54_code 18 = .ok (.iload_n 1, 1) := by decide +kernel
theorem d19_19 : decode jdk_21_method_54_code 19 = .ok (.aconst_null, 1) := by decide +kernel
theorem d19_20 : decode jdk_21_method_54_code 20 = .ok (.aastore, 1) := by decide +kernel
theorem d19_21 : decode jdk_21_method_54_code 21 = .ok (.iinc 1 1, 3) := by decide +kernel
theorem d19_24 : decode jdk_21_method_54_code 24 = .ok (.goto (-12), 3) := by decide +kernel
theorem d19_27 : decode jdk_21_method_54_code 27 = .ok (.iload_n 3, 1) := by decide +kernel
theorem d19_28 : decode jdk_21_method_54_code 28 = .ok (.iload_n 2, 1) := by decide +kernel
theorem d19_29 : decode jdk_21_method_54_code 29 = .ok (.if_icmp .ne 6, 3) := by decide +kernel
theorem d19_32 : decode jdk_21_method_54_code 32 = .ok (.goto 10, 3) := by decide +kernel
theorem d19_42 : decode jdk_21_method_54_code 42 = .ok (.return_, 1) := by decide +kernel
theorem ef_19 (m : MethodId) (x0 : Addr) (x1 : Int32) (x2 : Int32) : entryFrame m #[(.ref x0), (.int x1), (.int x2)] 4 = mkF m 0 #[.val (.ref x0), .val (.int x1), .val (.int x2), .unset] [] := by first | (simp [entryFrame, mkF, argsToLocals, Value.category]; done) | rfl
def Q_19 (Z : State) (ea : Addr) (kk : ClassId) (x_ : Addr) (h0 : Heap) (n0 : Nat) (v : Option Value) (h : Heap) (L : List Loc) : Prop := v = none ∧ Fr n0 L ∧ Keep h0 h [ea] ∧ Arv Z h ea kk (.object "java/lang/Object") (17 : Int32) [.null] .null
set_option maxRecDepth 65536 in
set_option maxHeartbeats 40000000 in
theorem rm_19 (l : Launch) (Z : State) (a0 : Array Value) (hw : ∀ d ∈ tables_1, d.before a0 Z = true) (ws : List Jvm.Cond) (ea : Addr) (kk : ClassId) (x_ : Addr) (h0 : Heap) (n0 : Nat) (Z0 : n0 ≤ h0.size) (V_ea : Arv Z h0 ea kk (.object "java/lang/Object") (17 : Int32) [.ref x_] .null) (g_ea : n0 ≤ ea) :
    MetFree l (⟨"java/util/ArrayDeque", "circularClear", "([Ljava/lang/Object;II)V"⟩ : MethodName) (head1 (Jvm.Cond.code (⟨"java/util/ArrayDeque", "circularClear", "([Ljava/lang/Object;II)V"⟩ : MethodName) jdk_21_method_54_code 4 none :: ws) ({ frames := 0, cells := 0, slots := 0, locals := 0 } : Room)) (fun a U => a = #[(.ref ea), (.int (0 : Int32)), (.int (1 : Int32))] ∧ Z.Warmed39 U.vm ∧ U.heap = h0) (fun _ _ _ _ _ => True) (fun _ U o U' => ∃ v L, o = .returned v ∧ Q_19 Z ea kk x_ h0 n0 v U'.heap L ∧ FrameEnd U o U' L ({ frames := 0, cells := 0, slots := 0, locals := 0 } : Room).cells ({ frames := 0, cells := 0, slots := 0, locals := 0 } : Room).slots) := by
  refine MetFree.of_bodySF (plainFor_of_name pn_java_util_ArrayDeque) hisR ?_
  intro p e s m args below meth c s₁ Bd hml0 hP hK
  obtain ⟨rfl, hZ, hh⟩ := hP
  have hx := Bd.exec
  have hby := Bd.bytes
  have hml : c.maxLocals = 4 := hml0
  have hown : s.vm.findClass "java/util/ArrayDeque" = some m.cls := findClass_of_methodNamed Bd.named
  have hnm := (name_of_methodNamed Bd.named Bd.method).1
  have X0 : Stand p l e ({ frames := 0, cells := 0, slots := 0, locals := 0 } : Room) s m #[(.ref ea), (.int (0 : Int32)), (.int (1 : Int32))] below meth c s₁ [] 0 0 := Stand.of_body Bd
  have e0 : s₁.heap = h0 := by rw [← hh, Bd.state]; rfl
  have N0 := Fr.nil n0
  have pw0 : ∀ t, Steps p.tables e below (s₁.setTop (mkF m 0 #[.val (.ref ea), .val (.int (0 : Int32)), .val (.int (1 : Int32)), .unset] [])) t → Steps p.tables e below (s₁.setTop (entryFrame m #[(.ref ea), (.int (0 : Int32)), (.int (1 : Int32))] 4)) t := fun t k => castTop (ef_19 m ea (0 : Int32) (1 : Int32)) k
  have K0 : Keep h0 h0 [ea] := Keep.refl h0 [ea]
  obtain ⟨c59, Arc59, qc59, Sc59, Mc59, Hsc59, Gc59⟩ := id V_ea
  have hinc59 : ¬ ((0 : Int32) < 0 ∨ c59.slots.size ≤ ((0 : Int32)).toNatClampNeg) := inb_of Sc59 ⟨by decide, by decide⟩
  obtain ⟨T60, h60, X60, e60, W60, st60⟩ := stR X0 hx hZ e0 Arc59 (j := (0 : Int32)) hinc59 rfl (Or.inl rfl) (g := (mkF m 20 #[.val (.ref ea), .val (.int (0 : Int32)), .val (.int (1 : Int32)), .val (.int (1 : Int32))] [.null, (.int (0 : Int32)), (.ref ea)])) rfl rfl (hb hby d19_20)
  have V60 := Arv.set Arc59 qc59 Sc59 Mc59 Hsc59 Gc59 rfl W60 0 rfl (Nat.le_of_ble_eq_true rfl)
  have K60 : Keep h0 h60 [ea] := K0.wr W60 (Or.inl (List.mem_of_getElem? (i := 0) rfl))
  have N60 := Fr.snoc X60 N0 g_ea
  have Z60 : n0 ≤ h60.size := (Nat.le_trans Z0 (Nat.le_of_eq (Wr.size W60).symm))
  obtain ⟨fs, hr, hrun, hended, hW, hsame⟩ := X60.leave (v := none) (fun _ => rfl)
  refine ⟨_, _, pw0 _ ?_, hrun, hended, _, _, rfl, ?_, ⟨_, rfl⟩, hW, hsame.mono (by decide) (by decide)⟩
  · skip
    refine XS.iloadN X0.here hx rfl (hb hby d19_0) rfl ?_
    show Steps p.tables e below (s₁.setTop (mkF m 1 #[.val (.ref ea), .val (.int (0 : Int32)), .val (.int (1 : Int32)), .unset] [(.int (0 : Int32))])) _
    refine XS.iloadN X0.here hx rfl (hb hby d19_1) rfl ?_
    show Steps p.tables e below (s₁.setTop (mkF m 2 #[.val (.ref ea), .val (.int (0 : Int32)), .val (.int (1 : Int32)), .unset] [(.int (1 : Int32)), (.int (0 : Int32))])) _
    refine XS.icmpNo X0.here hx rfl (hb hby d19_2) rfl (flt (by decide : ¬ ((1 : Int32) < (0 : Int32)))).2.2.1 ?_
    show Steps p.tables e below (s₁.setTop (mkF m 5 #[.val (.ref ea), .val (.int (0 : Int32)), .val (.int (1 : Int32)), .unset] [])) _
    refine XS.iloadN X0.here hx rfl (hb hby d19_5) rfl ?_
    show Steps p.tables e below (s₁.setTop (mkF m 6 #[.val (.ref ea), .val (.int (0 : Int32)), .val (.int (1 : Int32)), .unset] [(.int (1 : Int32))])) _
    refine XS.goto X0.here hx rfl (pc0 := 6) (pc' := 11) rfl (hb hby d19_6) (by decide) (by decide) ?_
    show Steps p.tables e below (s₁.setTop (mkF m 11 #[.val (.ref ea), .val (.int (0 : Int32)), .val (.int (1 : Int32)), .unset] [(.int (1 : Int32))])) _
    refine XS.istoreN X0.here hx rfl (hb hby d19_11) rfl (l' := #[.val (.ref ea), .val (.int (0 : Int32)), .val (.int (1 : Int32)), .val (.int (1 : Int32))]) rfl ?_
    show Steps p.tables e below (s₁.setTop (mkF m 12 #[.val (.ref ea), .val (.int (0 : Int32)), .val (.int (1 : Int32)), .val (.int (1 : Int32))] [])) _
    refine XS.iloadN X0.here hx rfl (hb hby d19_12) rfl ?_
    show Steps p.tables e below (s₁.setTop (mkF m 13 #[.val (.ref ea), .val (.int (0 : Int32)), .val (.int (1 : Int32)), .val (.int (1 : Int32))] [(.int (0 : Int32))])) _
    refine XS.iloadN X0.here hx rfl (hb hby d19_13) rfl ?_
    show Steps p.tables e below (s₁.setTop (mkF m 14 #[.val (.ref ea), .val (.int (0 : Int32)), .val (.int (1 : Int32)), .val (.int (1 : Int32))] [(.int (1 : Int32)), (.int (0 : Int32))])) _
    refine XS.icmpNo X0.here hx rfl (hb hby d19_14) rfl (tlt (by decide : (0 : Int32) < (1 : Int32))).2.1 ?_
    show Steps p.tables e below (s₁.setTop (mkF m 17 #[.val (.ref ea), .val (.int (0 : Int32)), .val (.int (1 : Int32)), .val (.int (1 : Int32))] [])) _
    refine XS.aloadN X0.here hx rfl (hb hby d19_17) rfl rfl ?_
    show Steps p.tables e below (s₁.setTop (mkF m 18 #[.val (.ref ea), .val (.int (0 : Int32)), .val (.int (1 : Int32)), .val (.int (1 : Int32))] [(.ref ea)])) _
    refine XS.iloadN X0.here hx rfl (hb hby d19_18) rfl ?_
    show Steps p.tables e below (s₁.setTop (mkF m 19 #[.val (.ref ea), .val (.int (0 : Int32)), .val (.int (1 : Int32)), .val (.int (1 : Int32))] [(.int (0 : Int32)), (.ref ea)])) _
    refine XS.aconstNull X0.here hx rfl (hb hby d19_19) ?_
    show Steps p.tables e below (s₁.setTop (mkF m 20 #[.val (.ref ea), .val (.int (0 : Int32)), .val (.int (1 : Int32)), .val (.int (1 : Int32))] [.null, (.int (0 : Int32)), (.ref ea)])) _
    refine st60 _ ?_
    show Steps p.tables e below (T60.setTop (mkF m 21 #[.val (.ref ea), .val (.int (0 : Int32)), .val (.int (1 : Int32)), .val (.int (1 : Int32))] [])) _
    refine XS.iinc X60.here hx rfl (hb hby d19_21) rfl (l' := #[.val (.ref ea), .val (.int (1 : Int32)), .val (.int (1 : Int32)), .val (.int (1 : Int32))]) rfl ?_
    show Steps p.tables e below (T60.setTop (mkF m 24 #[.val (.ref ea), .val (.int (1 : Int32)), .val (.int (1 : Int32)), .val (.int (1 : Int32))] [])) _
    refine XS.goto X60.here hx rfl (pc0 := 24) (pc' := 12) rfl (hb hby d19_24) (by decide) (by decide) ?_
    show Steps p.tables e below (T60.setTop (mkF m 12 #[.val (.ref ea), .val (.int (1 : Int32)), .val (.int (1 : Int32)), .val (.int (1 : Int32))] [])) _
    refine XS.iloadN X60.here hx rfl (hb hby d19_12) rfl ?_
    show Steps p.tables e below (T60.setTop (mkF m 13 #[.val (.ref ea), .val (.int (1 : Int32)), .val (.int (1 : Int32)), .val (.int (1 : Int32))] [(.int (1 : Int32))])) _
    refine XS.iloadN X60.here hx rfl (hb hby d19_13) rfl ?_
    show Steps p.tables e below (T60.setTop (mkF m 14 #[.val (.ref ea), .val (.int (1 : Int32)), .val (.int (1 : Int32)), .val (.int (1 : Int32))] [(.int (1 : Int32)), (.int (1 : Int32))])) _
    refine XS.icmpYes X60.here hx rfl (pc0 := 14) (pc' := 27) rfl (hb hby d19_14) rfl (flt (by decide : ¬ ((1 : Int32) < (1 : Int32)))).2.1 (by decide) (by decide) ?_
    show Steps p.tables e below (T60.setTop (mkF m 27 #[.val (.ref ea), .val (.int (1 : Int32)), .val (.int (1 : Int32)), .val (.int (1 : Int32))] [])) _
    refine XS.iloadN X60.here hx rfl (hb hby d19_27) rfl ?_
    show Steps p.tables e below (T60.setTop (mkF m 28 #[.val (.ref ea), .val (.int (1 : Int32)), .val (.int (1 : Int32)), .val (.int (1 : Int32))] [(.int (1 : Int32))])) _
    refine XS.iloadN X60.here hx rfl (hb hby d19_28) rfl ?_
    show Steps p.tables e below (T60.setTop (mkF m 29 #[.val (.ref ea), .val (.int (1 : Int32)), .val (.int (1 : Int32)), .val (.int (1 : Int32))] [(.int (1 : Int32)), (.int (1 : Int32))])) _
    refine XS.icmpNo X60.here hx rfl (hb hby d19_29) rfl (teq (by decide : (1 : Int32) = (1 : Int32))).2 ?_
    show Steps p.tables e below (T60.setTop (mkF m 32 #[.val (.ref ea), .val (.int (1 : Int32)), .val (.int (1 : Int32)), .val (.int (1 : Int32))] [])) _
    refine XS.goto X60.here hx rfl (pc0 := 32) (pc' := 42) rfl (hb hby d19_32) (by decide) (by decide) ?_
    show Steps p.tables e below (T60.setTop (mkF m 42 #[.val (.ref ea), .val (.int (1 : Int32)), .val (.int (1 : Int32)), .val (.int (1 : Int32))] [])) _
    exact X60.returnOut hx Bd.returns (hb hby d19_42) hr
  · show Q_19 Z ea kk x_ h0 n0 _ T60.heap _
    rw [e60]
    exact ⟨rfl, N60, K60, V60⟩
theorem d18_0 : decode jdk_21_method_53_code 0 = .ok (.aload_n 0, 1) := by decide +kernel
theorem d18_1 : decode jdk_21_method_53_code 1 = .ok (.getfield 3, 3) := by decide +kernel
theorem d18_4 : decode jdk_21_method_53_code 4 = .ok (.aload_n 0, 1) := by decide +kernel
theorem d18_5 : decode jdk_21_method_53_code 5 = .ok (.getfield 24, 3) := by decide +kernel
theorem d18_8 : decode jdk_21_method_53_code 8 = .ok (.aload_n 0, 1) := by decide +kernel
theorem d18_9 : decode jdk_21_method_53_code 9 = .ok (.getfield 20, 3) := by decide +kernel
theorem d18_12 : decode jdk_21_method_53_code 12 = .ok (.invokestatic 181, 3) := by decide +kernel
theorem d18_15 : decode jdk_21_method_53_code 15 = .ok (.aload_n 0, 1) := by decide +kernel
theorem d18_16 : decode jdk_21_method_53_code 16 = .ok (.aload_n 0, 1) := by decide +kernel
theorem d18_17 : decode jdk_21_method_53_code 17 = .ok (.iconst 0, 1) := by decide +kernel
theorem d18_18 : decode jdk_21_method_53_code 18 = .ok (.dup_x1, 1) := by decide +kernel
theorem d18_19 : decode jdk_21_method_53_code 19 = .ok (.putfield 20, 3) := by decide +kernel
theorem d18_22 : decode jdk_21_method_53_code 22 = .ok (.putfield 24, 3) := by decide +kernel
theorem d18_25 : decode jdk_21_method_53_code 25 = .ok (.return_, 1) := by decide +kernel
theorem ef_18 (m : MethodId) (x0 : Addr) : entryFrame m #[(.ref x0)] 1 = mkF m 0 #[.val (.ref x0)] [] := by first | (simp [entryFrame, mkF, argsToLocals, Value.category]; done) | rfl
def Q_18 (Z : State) (a1 : Addr) (ea : Addr) (kk : ClassId) (x_ : Addr) (h0 : Heap) (n0 : Nat) (v : Option Value) (h : Heap) (L : List Loc) : Prop := v = none ∧ Fr n0 L ∧ Keep h0 h [a1, ea] ∧ Exa Z h a1 "java/util/ArrayDeque" ∧ Fld Z h a1 "java/util/ArrayDeque" "elements" "[Ljava/lang/Object;" (.ref ea) ∧ Fld Z h a1 "java/util/ArrayDeque" "head" "I" (.int (0 : Int32)) ∧ Fld Z h a1 "java/util/ArrayDeque" "tail" "I" (.int (0 : Int32)) ∧ Arv Z h ea kk (.object "java/lang/Object") (17 : Int32) [.null] .null
set_option maxRecDepth 65536 in
set_option maxHeartbeats 40000000 in
theorem rm_18 (l : Launch) (Z : State) (a0 : Array Value) (hw : ∀ d ∈ tables_1, d.before a0 Z = true) (ws : List Jvm.Cond) (a1 : Addr) (ea : Addr) (kk : ClassId) (x_ : Addr) (h0 : Heap) (n0 : Nat) (Z0 : n0 ≤ h0.size) (E_a1 : Exa Z h0 a1 "java/util/ArrayDeque") (F_elements : Fld Z h0 a1 "java/util/ArrayDeque" "elements" "[Ljava/lang/Object;" (.ref ea)) (F_head : Fld Z h0 a1 "java/util/ArrayDeque" "head" "I" (.int (0 : Int32))) (F_tail : Fld Z h0 a1 "java/util/ArrayDeque" "tail" "I" (.int (1 : Int32))) (V_ea : Arv Z h0 ea kk (.object "java/lang/Object") (17 : Int32) [.ref x_] .null) (O_ea : Ovr Z kk "java/lang/Object") (g_a1 : n0 ≤ a1) (g_ea : n0 ≤ ea) (hne : a1 ≠ ea) :
    MetFree l (⟨"java/util/ArrayDeque", "clear", "()V"⟩ : MethodName) (head1 (Jvm.Cond.code (⟨"java/util/ArrayDeque", "clear", "()V"⟩ : MethodName) jdk_21_method_53_code 1 none :: ws) ({ frames := 1, cells := 0, slots := 0, locals := 15 } : Room)) (fun a U => a = #[(.ref a1)] ∧ Z.Warmed39 U.vm ∧ U.heap = h0) (fun _ _ _ _ _ => True) (fun _ U o U' => ∃ v L, o = .returned v ∧ Q_18 Z a1 ea kk x_ h0 n0 v U'.heap L ∧ FrameEnd U o U' L ({ frames := 1, cells := 0, slots := 0, locals := 15 } : Room).cells ({ frames := 1, cells := 0, slots := 0, locals := 15 } : Room).slots) := by
  refine MetFree.of_bodySF (plainFor_of_name pn_java_util_ArrayDeque) hisR ?_
  intro p e s m args below meth c s₁ Bd hml0 hP hK
  obtain ⟨rfl, hZ, hh⟩ := hP
  have hx := Bd.exec
  have hby := Bd.bytes
  have hml : c.maxLocals = 1 := hml0
  have hown : s.vm.findClass "java/util/ArrayDeque" = some m.cls := findClass_of_methodNamed Bd.named
  have hnm := (name_of_methodNamed Bd.named Bd.method).1
  have X0 : Stand p l e ({ frames := 1, cells := 0, slots := 0, locals := 15 } : Room) s m #[(.ref a1)] below meth c s₁ [] 0 0 := Stand.of_body Bd
  have e0 : s₁.heap = h0 := by rw [← hh, Bd.state]; rfl
  have N0 := Fr.nil n0
  have pw0 : ∀ t, Steps p.tables e below (s₁.setTop (mkF m 0 #[.val (.ref a1)] [])) t → Steps p.tables e below (s₁.setTop (entryFrame m #[(.ref a1)] 1)) t := fun t k => castTop (ef_18 m a1) k
  have K0 : Keep h0 h0 [a1, ea] := Keep.refl h0 [a1, ea]
  obtain ⟨T61, X61, e61, st61⟩ := getF X0 hx hZ hown (host := "") (Or.inl (hw _ (List.mem_of_getElem? (i := 42) rfl))) Via.refl e0 F_elements (g := (mkF m 1 #[.val (.ref a1)] [(.ref a1)])) rfl rfl (hb hby d18_1)
  obtain ⟨T62, X62, e62, st62⟩ := getF X61 hx hZ hown (host := "") (Or.inl (hw _ (List.mem_of_getElem? (i := 93) rfl))) Via.refl e61 F_head (g := (mkF m 5 #[.val (.ref a1)] [(.ref a1), (.ref ea)])) rfl rfl (hb hby d18_5)
  obtain ⟨T63, X63, e63, st63⟩ := getF X62 hx hZ hown (host := "") (Or.inl (hw _ (List.mem_of_getElem? (i := 95) rfl))) Via.refl e62 F_tail (g := (mkF m 9 #[.val (.ref a1)] [(.ref a1), (.int (0 : Int32)), (.ref ea)])) rfl rfl (hb hby d18_9)
  obtain ⟨_, _, ⟨T64, L64, k64, n64⟩, -, X64, ⟨Lc64, hQ64, l64, y64, z64⟩, st64⟩ := Jvm.LawKit.callS X63 hx (y := (⟨"java/util/ArrayDeque", "circularClear", "([Ljava/lang/Object;II)V"⟩ : MethodName)) hown (mvT hZ (hw _ (List.mem_of_getElem? (i := 136) rfl))) (mvT hZ (hw _ (List.mem_of_getElem? (i := 137) rfl))) (mvT hZ (hw _ (List.mem_of_getElem? (i := 29) rfl))) (mvT hZ (hw _ (List.mem_of_getElem? (i := 138) rfl))) (by decide) (backOf (W := 0) (rm_19 l Z a0 hw [] ea kk x_ h0 n0 Z0 V_ea g_ea) hZ (hw _ (List.mem_of_getElem? (i := 138) rfl)) (hw _ (List.mem_of_getElem? (i := 29) rfl)) (by decide) (by decide)) (g := (mkF m 12 #[.val (.ref a1)] [(.int (1 : Int32)), (.int (0 : Int32)), (.ref ea)])) rfl (by rw [hml]; rfl) (argsL := [(.ref ea), (.int (0 : Int32)), (.int (1 : Int32))]) (rest := []) (lenOf pd___Ljava_lang_Object_II_V rfl) rfl (by show 2 * 0 + _ ≤ _; exact Nat.le_of_eq rfl) (hb hby d18_12) (fun _ _ => ⟨rfl, e63, (by decide : 0 + 0 ≤ _), (by decide : 0 + 0 ≤ _)⟩)
  dsimp only [Pt.U, Pt.locs, Pt.cells, Pt.slots] at X64 l64 y64 z64 st64 hQ64
  subst l64 y64 z64
  obtain ⟨rfl, N64q, K64q, Va64q⟩ := hQ64
  have N64 := Fr.app N0 N64q
  have K64 : Keep h0 T64.heap [a1, ea] := K0.trans K64q (allS (P := fun x => x ∈ [a1, ea] ∨ h0.size ≤ x) (Or.inl (List.mem_of_getElem? (i := 1) rfl)) all0)
  have Z64 : n0 ≤ T64.heap.size := (Nat.le_trans Z0 K64q.1)
  obtain ⟨T65, h65, X65, e65, W65, st65⟩ := putF X64 hx hZ hown (host := "") (Or.inl (hw _ (List.mem_of_getElem? (i := 95) rfl))) Via.refl rfl (F_tail.keep K64q (ninS hne nin0)) (E_a1.keep K64q) (Or.inl (hw _ (List.mem_of_getElem? (i := 96) rfl))) (hw _ (List.mem_of_getElem? (i := 28) rfl)) (ty := .int) (by decide) rfl rfl (g := (mkF m 19 #[.val (.ref a1)] [(.int (0 : Int32)), (.ref a1), (.int (0 : Int32)), (.ref a1)])) rfl rfl (hb hby d18_19)
  have Fw65 := (F_tail.keep K64q (ninS hne nin0)).same W65
  have K65 : Keep h0 h65 [a1, ea] := K64.wr W65 (Or.inl (List.mem_of_getElem? (i := 0) rfl))
  have N65 := Fr.snoc X65 N64 g_a1
  have Z65 : n0 ≤ h65.size := (Nat.le_trans Z64 (Nat.le_of_eq (Wr.size W65).symm))
  obtain ⟨T66, h66, X66, e66, W66, st66⟩ := putF X65 hx hZ hown (host := "") (Or.inl (hw _ (List.mem_of_getElem? (i := 93) rfl))) Via.refl e65 ((F_head.keep K64q (ninS hne nin0)).other W65 (Or.inr (slot_ne (Or.inl (hw _ (List.mem_of_getElem? (i := 94) rfl))) (Or.inl (hw _ (List.mem_of_getElem? (i := 96) rfl))) (by decide) (t := .int) (t' := .int) (by decide) (by decide)))) ((E_a1.keep K64q).wr W65) (Or.inl (hw _ (List.mem_of_getElem? (i := 94) rfl))) (hw _ (List.mem_of_getElem? (i := 28) rfl)) (ty := .int) (by decide) rfl rfl (g := (mkF m 22 #[.val (.ref a1)] [(.int (0 : Int32)), (.ref a1)])) rfl rfl (hb hby d18_22)
  have Fw66 := ((F_head.keep K64q (ninS hne nin0)).other W65 (Or.inr (slot_ne (Or.inl (hw _ (List.mem_of_getElem? (i := 94) rfl))) (Or.inl (hw _ (List.mem_of_getElem? (i := 96) rfl))) (by decide) (t := .int) (t' := .int) (by decide) (by decide)))).same W66
  have K66 : Keep h0 h66 [a1, ea] := K65.wr W66 (Or.inl (List.mem_of_getElem? (i := 0) rfl))
  have N66 := Fr.snoc X66 N65 g_a1
  have Z66 : n0 ≤ h66.size := (Nat.le_trans Z65 (Nat.le_of_eq (Wr.size W66).symm))
  obtain ⟨fs, hr, hrun, hended, hW, hsame⟩ := X66.leave (v := none) (fun _ => rfl)
  refine ⟨_, _, pw0 _ ?_, hrun, hended, _, _, rfl, ?_, ⟨_, rfl⟩, hW, hsame.mono (by decide) (by decide)⟩
  · skip
    refine XS.aloadN X0.here hx rfl (hb hby d18_0) rfl rfl ?_
    show Steps p.tables e below (s₁.setTop (mkF m 1 #[.val (.ref a1)] [(.ref a1)])) _
    refine st61 _ ?_
    show Steps p.tables e below (T61.setTop (mkF m 4 #[.val (.ref a1)] [(.ref ea)])) _
    refine XS.aloadN X61.here hx rfl (hb hby d18_4) rfl rfl ?_
    show Steps p.tables e below (T61.setTop (mkF m 5 #[.val (.ref a1)] [(.ref a1), (.ref ea)])) _
    refine st62 _ ?_
    show Steps p.tables e below (T62.setTop (mkF m 8 #[.val (.ref a1)] [(.int (0 : Int32)), (.ref ea)])) _
    refine XS.aloadN X62.here hx rfl (hb hby d18_8) rfl rfl ?_
    show Steps p.tables e below (T62.setTop (mkF m 9 #[.val (.ref a1)] [(.ref a1), (.int (0 : Int32)), (.ref ea)])) _
    refine st63 _ ?_
    show Steps p.tables e below (T63.setTop (mkF m 12 #[.val (.ref a1)] [(.int (1 : Int32)), (.int (0 : Int32)), (.ref ea)])) _
    refine st64 _ ?_
    show Steps p.tables e below (T64.setTop (mkF m 15 #[.val (.ref a1)] [])) _
    refine XS.aloadN X64.here hx rfl (hb hby d18_15) rfl rfl ?_
    show Steps p.tables e below (T64.setTop (mkF m 16 #[.val (.ref a1)] [(.ref a1)])) _
    refine XS.aloadN X64.here hx rfl (hb hby d18_16) rfl rfl ?_
    show Steps p.tables e below (T64.setTop (mkF m 17 #[.val (.ref a1)] [(.ref a1), (.ref a1)])) _
    refine XS.iconst X64.here hx rfl (hb hby d18_17) ?_
    show Steps p.tables e below (T64.setTop (mkF m 18 #[.val (.ref a1)] [(.int (0 : Int32)), (.ref a1), (.ref a1)])) _
    refine XS.dupX1 X64.here hx rfl (hb hby d18_18) rfl rfl rfl ?_
    show Steps p.tables e below (T64.setTop (mkF m 19 #[.val (.ref a1)] [(.int (0 : Int32)), (.ref a1), (.int (0 : Int32)), (.ref a1)])) _
    refine st65 _ ?_
    show Steps p.tables e below (T65.setTop (mkF m 22 #[.val (.ref a1)] [(.int (0 : Int32)), (.ref a1)])) _
    refine st66 _ ?_
    show Steps p.tables e below (T66.setTop (mkF m 25 #[.val (.ref a1)] [])) _
    exact X66.returnOut hx Bd.returns (hb hby d18_25) hr
  · show Q_18 Z a1 ea kk x_ h0 n0 _ T66.heap _
    rw [e66]
    exact ⟨rfl, N66, K66, (((E_a1.keep K64q).wr W65).wr W66), (((F_elements.keep K64q (ninS hne nin0)).other W65 (Or.inr (slot_ne (Or.inl (hw _ (List.mem_of_getElem? (i := 43) rfl))) (Or.inl (hw _ (List.mem_of_getElem? (i := 96) rfl))) (by decide) (t := (.array (.object "java/lang/Object"))) (t' := .int) (by decide) (by decide)))).other W66 (Or.inr (slot_ne (Or.inl (hw _ (List.mem_of_getElem? (i := 43) rfl))) (Or.inl (hw _ (List.mem_of_getElem? (i := 94) rfl))) (by decide) (t := (.array (.object "java/lang/Object"))) (t' := .int) (by decide) (by decide)))), Fw66, (Fw65.other W66 (Or.inr (slot_ne (Or.inl (hw _ (List.mem_of_getElem? (i := 96) rfl))) (Or.inl (hw _ (List.mem_of_getElem? (i := 94) rfl))) (by decide) (t := .int) (t' := .int) (by decide) (by decide)))), ((Va64q.other W65 (Ne.symm hne)).other W66 (Ne.symm hne))⟩
theorem d11_0 : decode prog_17_method_2_code 0 = .ok (.aload_n 0, 1) := by decide +kernel
theorem d11_1 : decode prog_17_method_2_code 1 = .ok (.getfield 10, 3) := by decide +kernel
theorem d11_4 : decode prog_17_method_2_code 4 = .ok (.invokeinterface 48 1, 5) := by decide +kernel
theorem d11_9 : decode prog_17_method_2_code 9 = .ok (.ifCond .ne 41, 3) := by decide +kernel
theorem d11_50 : decode prog_17_method_2_code 50 = .ok (.aload_n 0, 1) := by decide +kernel
theorem d11_51 : decode prog_17_method_2_code 51 = .ok (.getfield 10, 3) := by decide +kernel
theorem d11_54 : decode prog_17_method_2_code 54 = .ok (.lload_n 1, 1) := by decide +kernel
theorem d11_55 : decode prog_17_method_2_code 55 = .ok (.invokestatic 67, 3) := by decide +kernel
theorem d11_58 : decode prog_17_method_2_code 58 = .ok (.invokeinterface 71 2, 5) := by decide +kernel
theorem d11_63 : decode prog_17_method_2_code 63 = .ok (.aload_n 0, 1) := by decide +kernel
theorem d11_64 : decode prog_17_method_2_code 64 = .ok (.getfield 10, 3) := by decide +kernel
theorem d11_67 : decode prog_17_method_2_code 67 = .ok (.invokeinterface 75 1, 5) := by decide +kernel
theorem d11_72 : decode prog_17_method_2_code 72 = .ok (.aload_n 0, 1) := by decide +kernel
theorem d11_73 : decode prog_17_method_2_code 73 = .ok (.getfield 22, 3) := by decide +kernel
theorem d11_76 : decode prog_17_method_2_code 76 = .ok (.if_icmp .ge 5, 3) := by decide +kernel
theorem d11_81 : decode prog_17_method_2_code 81 = .ok (.aload_n 0, 1) := by decide +kernel
theorem d11_82 : decode prog_17_method_2_code 82 = .ok (.getfield 10, 3) := by decide +kernel
theorem d11_85 : decode prog_17_method_2_code 85 = .ok (.invokeinterface 78 1, 5) := by decide +kernel
theorem d11_90 : decode prog_17_method_2_code 90 = .ok (.aload_n 0, 1) := by decide +kernel
theorem d11_91 : decode prog_17_method_2_code 91 = .ok (.iconst 1, 1) := by decide +kernel
theorem d11_92 : decode prog_17_method_2_code 92 = .ok (.putfield 81, 3) := by decide +kernel
theorem d11_95 : decode prog_17_method_2_code 95 = .ok (.aload_n 0, 1) := by decide +kernel
theorem d11_96 : decode prog_17_method_2_code 96 = .ok (.lload_n 1, 1) := by decide +kernel
theorem d11_97 : decode prog_17_method_2_code 97 = .ok (.aload_n 0, 1) := by decide +kernel
theorem d11_98 : decode prog_17_method_2_code 98 = .ok (.getfield 45, 3) := by decide +kernel
theorem d11_101 : decode prog_17_method_2_code 101 = .ok (.ladd, 1) := by decide +kernel
theorem d11_102 : decode prog_17_method_2_code 102 = .ok (.putfield 85, 3) := by decide +kernel
theorem d11_105 : decode prog_17_method_2_code 105 = .ok (.iconst 1, 1) := by decide +kernel
theorem d11_106 : decode prog_17_method_2_code 106 = .ok (.ireturn, 1) := by decide +kernel
theorem ef_11a (m : MethodId) (x0 : Addr) (x1 : Int64) : entryFrame m #[(.ref x0), (.long x1)] 3 = mkF m 0 #[.val (.ref x0), .val (.long x1), .second] [] := by first | (simp [entryFrame, mkF, argsToLocals, Value.category]; done) | rfl
def Q_11a (Z : State) (a1 : Addr) (now : Int64) (fn : Int64) (bn : Int32) (bu : Int64) (d ea : Addr) (kk : ClassId) (cl : Cell) (ca : Addr) (h0 : Heap) (n0 : Nat) (v : Option Value) (h : Heap) (L : List Loc) : Prop := v = some (.int 1) ∧ Fr n0 L ∧ Keep h0 h [a1, d, ea] ∧ Exa Z h a1 "com/example/gated_chorus/gatedchorus/limit/Kicks" ∧ Fld Z h a1 "com/example/gated_chorus/gatedchorus/limit/Kicks" "kicks" "I" (.int (1 : Int32)) ∧ Fld Z h a1 "com/example/gated_chorus/gatedchorus/limit/Kicks" "forNanos" "J" (.long fn) ∧ Fld Z h a1 "com/example/gated_chorus/gatedchorus/limit/Kicks" "banned" "Z" (.int (1 : Int32)) ∧ Fld Z h a1 "com/example/gated_chorus/gatedchorus/limit/Kicks" "bannedUntil" "J" (.long (now + fn)) ∧ Fld Z h a1 "com/example/gated_chorus/gatedchorus/limit/Kicks" "times" "Ljava/util/Deque;" (.ref d) ∧ Exa Z h d "java/util/ArrayDeque" ∧ Fld Z h d "java/util/ArrayDeque" "elements" "[Ljava/lang/Object;" (.ref ea) ∧ Fld Z h d "java/util/ArrayDeque" "head" "I" (.int (0 : Int32)) ∧ Fld Z h d "java/util/ArrayDeque" "tail" "I" (.int (0 : Int32)) ∧ Arv Z h ea kk (.object "java/lang/Object") (17 : Int32) [.null] .null
set_option maxRecDepth 65536 in
set_option maxHeartbeats 40000000 in
theorem rm_11a (l : Launch) (Z : State) (a0 : Array Value) (hw : ∀ d ∈ tables_1, d.before a0 Z = true) (ws : List Jvm.Cond) (a1 : Addr) (now : Int64) (fn : Int64) (bn : Int32) (bu : Int64) (d ea : Addr) (kk : ClassId) (cl : Cell) (ca : Addr) (h0 : Heap) (n0 : Nat) (Z0 : n0 ≤ h0.size) (E_a1 : Exa Z h0 a1 "com/example/gated_chorus/gatedchorus/limit/Kicks") (F_kicks : Fld Z h0 a1 "com/example/gated_chorus/gatedchorus/limit/Kicks" "kicks" "I" (.int (1 : Int32))) (F_forNanos : Fld Z h0 a1 "com/example/gated_chorus/gatedchorus/limit/Kicks" "forNanos" "J" (.long fn)) (F_banned : Fld Z h0 a1 "com/example/gated_chorus/gatedchorus/limit/Kicks" "banned" "Z" (.int bn)) (F_bannedUntil : Fld Z h0 a1 "com/example/gated_chorus/gatedchorus/limit/Kicks" "bannedUntil" "J" (.long bu)) (F_times : Fld Z h0 a1 "com/example/gated_chorus/gatedchorus/limit/Kicks" "times" "Ljava/util/Deque;" (.ref d)) (E_d : Exa Z h0 d "java/util/ArrayDeque") (D_elements : Fld Z h0 d "java/util/ArrayDeque" "elements" "[Ljava/lang/Object;" (.ref ea)) (D_head : Fld Z h0 d "java/util/ArrayDeque" "head" "I" (.int (0 : Int32))) (D_tail : Fld Z h0 d "java/util/ArrayDeque" "tail" "I" (.int (0 : Int32))) (V_ea : Arv Z h0 ea kk (.object "java/lang/Object") (17 : Int32) [.null] .null) (O_ea : Ovr Z kk "java/lang/Object") (g_a1 : n0 ≤ a1) (g_d : n0 ≤ d) (g_ea : n0 ≤ ea) (hne : d ≠ ea) (had : a1 ≠ d) (hae : a1 ≠ ea) (S_c : Sta Z h0 "java/lang/Long$LongCache" "cache" "[Ljava/lang/Long;" (.ref ca)) (Ar_c : Arr Z h0 ca cl (.object "java/lang/Long")) (hsz : cl.slots.size = 256) (hcache : ∀ j : Int32, ¬ (j < 0 ∨ cl.slots.size ≤ j.toNatClampNeg) → ∃ b, cl.slots[j.toNatClampNeg]? = some (.ref b) ∧ Exa Z h0 b "java/lang/Long") :
    MetFree l (⟨"com/example/gated_chorus/gatedchorus/limit/Kicks", "kick", "(J)Z"⟩ : MethodName) (head1 (Jvm.Cond.code (⟨"com/example/gated_chorus/gatedchorus/limit/Kicks", "kick", "(J)Z"⟩ : MethodName) prog_17_method_2_code 3 (some .boolean) :: ws) ({ frames := 4, cells := 1, slots := 1, locals := 54 } : Room)) (fun a U => a = #[(.ref a1), (.long now)] ∧ Z.Warmed39 U.vm ∧ U.heap = h0) (fun _ _ _ _ _ => True) (fun _ U o U' => ∃ v L, o = .returned v ∧ Q_11a Z a1 now fn bn bu d ea kk cl ca h0 n0 v U'.heap L ∧ FrameEnd U o U' L ({ frames := 4, cells := 1, slots := 1, locals := 54 } : Room).cells ({ frames := 4, cells := 1, slots := 1, locals := 54 } : Room).slots) := by
  refine MetFree.of_bodySF (plainFor_of_name pn_com_example_gated_chorus_gatedchorus_limit_Kicks) hisR ?_
  intro p e s m args below meth c s₁ Bd hml0 hP hK
  obtain ⟨rfl, hZ, hh⟩ := hP
  have hx := Bd.exec
  have hby := Bd.bytes
  have hml : c.maxLocals = 3 := hml0
  have hown : s.vm.findClass "com/example/gated_chorus/gatedchorus/limit/Kicks" = some m.cls := findClass_of_methodNamed Bd.named
  have hnm := (name_of_methodNamed Bd.named Bd.method).1
  have X0 : Stand p l e ({ frames := 4, cells := 1, slots := 1, locals := 54 } : Room) s m #[(.ref a1), (.long now)] below meth c s₁ [] 0 0 := Stand.of_body Bd
  have e0 : s₁.heap = h0 := by rw [← hh, Bd.state]; rfl
  have N0 := Fr.nil n0
  have pw0 : ∀ t, Steps p.tables e below (s₁.setTop (mkF m 0 #[.val (.ref a1), .val (.long now), .second] [])) t → Steps p.tables e below (s₁.setTop (entryFrame m #[(.ref a1), (.long now)] 3)) t := fun t k => castTop (ef_11a m a1 now) k
  have K0 : Keep h0 h0 [a1, d, ea] := Keep.refl h0 [a1, d, ea]
  obtain ⟨T67, X67, e67, st67⟩ := getF X0 hx hZ hown (host := "") (Or.inl (hw _ (List.mem_of_getElem? (i := 44) rfl))) Via.refl e0 F_times (g := (mkF m 1 #[.val (.ref a1), .val (.long now), .second] [(.ref a1)])) rfl rfl (hb hby d11_1)
  obtain ⟨cq68, kq68, q68a, q68b, q68c⟩ := isOf hZ e67 E_d
  obtain ⟨_, _, ⟨T68, L68, k68, n68⟩, -, X68, ⟨Lc68, hQ68, l68, y68, z68⟩, st68⟩ := X67.own_interfaceBackUp hx (J := "java/util/Collection") (xi := (⟨"java/util/Deque", "isEmpty", "()Z"⟩ : MethodName)) (y := (⟨"java/util/ArrayDeque", "isEmpty", "()Z"⟩ : MethodName)) hown (mvT hZ (hw _ (List.mem_of_getElem? (i := 84) rfl))) (mvT hZ (hw _ (List.mem_of_getElem? (i := 85) rfl))) (by decide) (own_mvI hZ (hw _ (List.mem_of_getElem? (i := 86) rfl))) (by decide) (mvT hZ (hw _ (List.mem_of_getElem? (i := 87) rfl))) (mvT hZ (hw _ (List.mem_of_getElem? (i := 88) rfl))) (mvT hZ (hw _ (List.mem_of_getElem? (i := 89) rfl))) (mvT hZ (hw _ (List.mem_of_getElem? (i := 90) rfl))) (mvT hZ (hw _ (List.mem_of_getElem? (i := 91) rfl))) (by decide) (backOf (W := 0) (rm_12 l Z a0 hw [] d h0 n0 Z0 D_head D_tail) hZ (hw _ (List.mem_of_getElem? (i := 92) rfl)) (hw _ (List.mem_of_getElem? (i := 29) rfl)) (by decide) (by decide)) q68a q68b q68c (g := (mkF m 4 #[.val (.ref a1), .val (.long now), .second] [(.ref d)])) rfl (by rw [hml]; rfl) (Steps.refl _) (argsL := []) (rest := []) (lenOf pd___Z rfl) rfl (by show 2 * 0 + _ ≤ _; exact Nat.le_of_eq rfl) (hb hby d11_4) (fun _ _ => ⟨rfl, e67, (by decide : 0 + 0 ≤ _), (by decide : 0 + 0 ≤ _)⟩)
  dsimp only [Pt.U, Pt.locs, Pt.cells, Pt.slots] at X68 l68 y68 z68 st68 hQ68
  subst l68 y68 z68
  obtain ⟨rfl, N68q, e68q⟩ := hQ68
  have N68 := Fr.app N0 N68q
  obtain ⟨T69, X69, e69, st69⟩ := getF X68 hx hZ hown (host := "") (Or.inl (hw _ (List.mem_of_getElem? (i := 44) rfl))) Via.refl e68q F_times (g := (mkF m 51 #[.val (.ref a1), .val (.long now), .second] [(.ref a1)])) rfl rfl (hb hby d11_51)
  obtain ⟨_, _, ⟨T70, L70, k70, n70⟩, -, X70, ⟨Lc70, hQ70, l70, y70, z70⟩, st70⟩ := Jvm.LawKit.callS X69 hx (y := (⟨"java/lang/Long", "valueOf", "(J)Ljava/lang/Long;"⟩ : MethodName)) hown (mvT hZ (hw _ (List.mem_of_getElem? (i := 97) rfl))) (mvT hZ (hw _ (List.mem_of_getElem? (i := 98) rfl))) (mvT hZ (hw _ (List.mem_of_getElem? (i := 99) rfl))) (mvT hZ (hw _ (List.mem_of_getElem? (i := 100) rfl))) (by decide) (backOf (W := 1) (rm_13 l Z a0 hw [] now cl ca h0 n0 Z0 S_c Ar_c hsz hcache) hZ (hw _ (List.mem_of_getElem? (i := 100) rfl)) (hw _ (List.mem_of_getElem? (i := 99) rfl)) (by decide) (by decide)) (g := (mkF m 55 #[.val (.ref a1), .val (.long now), .second] [(.long now), (.ref d)])) rfl (by rw [hml]; rfl) (argsL := [(.long now)]) (rest := [(.ref d)]) (lenOf pd__J_Ljava_lang_Long_ rfl) rfl (by show 2 * 0 + _ ≤ _; exact Nat.le_of_eq rfl) (hb hby d11_55) (fun _ _ => ⟨rfl, e69, (by decide : 0 + 1 ≤ _), (by decide : 0 + 1 ≤ _)⟩)
  dsimp only [Pt.U, Pt.locs, Pt.cells, Pt.slots] at X70 l70 y70 z70 st70 hQ70
  subst l70 y70 z70
  obtain ⟨b70, rfl, N70q, K70q, E70q⟩ := hQ70
  have N70 := Fr.app N68 N70q
  have K70 : Keep h0 T70.heap [a1, d, ea] := K0.trans K70q all0
  have Z70 : n0 ≤ T70.heap.size := (Nat.le_trans Z0 K70q.1)
  obtain ⟨cq71, kq71, q71a, q71b, q71c⟩ := isOf hZ rfl (E_d.keep K70q)
  obtain ⟨_, _, ⟨T71, L71, k71, n71⟩, -, X71, ⟨Lc71, hQ71, l71, y71, z71⟩, st71⟩ := X70.interfaceBack hx (xi := (⟨"java/util/Deque", "addLast", "(Ljava/lang/Object;)V"⟩ : MethodName)) (y := (⟨"java/util/ArrayDeque", "addLast", "(Ljava/lang/Object;)V"⟩ : MethodName)) hown (mvT hZ (hw _ (List.mem_of_getElem? (i := 105) rfl))) (mvT hZ (hw _ (List.mem_of_getElem? (i := 106) rfl))) (mvT hZ (hw _ (List.mem_of_getElem? (i := 107) rfl))) (mvT hZ (hw _ (List.mem_of_getElem? (i := 108) rfl))) (mvT hZ (hw _ (List.mem_of_getElem? (i := 109) rfl))) (mvT hZ (hw _ (List.mem_of_getElem? (i := 110) rfl))) (mvT hZ (hw _ (List.mem_of_getElem? (i := 111) rfl))) (mvT hZ (hw _ (List.mem_of_getElem? (i := 91) rfl))) (by decide) (backOf (W := 0) (rm_14 l Z a0 hw [] d b70 ea kk T70.heap n0 Z70 (E_d.keep K70q) (D_elements.keep K70q nin0) (D_head.keep K70q nin0) (D_tail.keep K70q nin0) (V_ea.keep K70q nin0) O_ea g_d g_ea hne E70q) hZ (hw _ (List.mem_of_getElem? (i := 112) rfl)) (hw _ (List.mem_of_getElem? (i := 29) rfl)) (by decide) (by decide)) q71a q71b q71c (g := (mkF m 58 #[.val (.ref a1), .val (.long now), .second] [(.ref b70), (.ref d)])) rfl (by rw [hml]; rfl) (Steps.refl _) (argsL := [(.ref b70)]) (rest := []) (lenOf pd__Ljava_lang_Object__V rfl) rfl (by show 2 * 0 + _ ≤ _; exact Nat.le_of_eq rfl) (hb hby d11_58) (fun _ _ => ⟨rfl, rfl, (by decide : 1 + 0 ≤ _), (by decide : 1 + 0 ≤ _)⟩)
  dsimp only [Pt.U, Pt.locs, Pt.cells, Pt.slots] at X71 l71 y71 z71 st71 hQ71
  subst l71 y71 z71
  obtain ⟨rfl, N71q, K71q, Ed71q, Fe71q, Fh71q, Ft71q, Va71q⟩ := hQ71
  have N71 := Fr.app N70 N71q
  have K71 : Keep h0 T71.heap [a1, d, ea] := K70.trans K71q (allS (P := fun x => x ∈ [a1, d, ea] ∨ h0.size ≤ x) (Or.inl (List.mem_of_getElem? (i := 1) rfl)) (allS (P := fun x => x ∈ [a1, d, ea] ∨ h0.size ≤ x) (Or.inl (List.mem_of_getElem? (i := 2) rfl)) all0))
  have Z71 : n0 ≤ T71.heap.size := (Nat.le_trans Z70 K71q.1)
  obtain ⟨T72, X72, e72, st72⟩ := getF X71 hx hZ hown (host := "") (Or.inl (hw _ (List.mem_of_getElem? (i := 44) rfl))) Via.refl rfl ((F_times.keep K70q nin0).keep K71q (ninS had (ninS hae nin0))) (g := (mkF m 64 #[.val (.ref a1), .val (.long now), .second] [(.ref a1)])) rfl rfl (hb hby d11_64)
  obtain ⟨cq73, kq73, q73a, q73b, q73c⟩ := isOf hZ e72 Ed71q
  obtain ⟨_, _, ⟨T73, L73, k73, n73⟩, -, X73, ⟨Lc73, hQ73, l73, y73, z73⟩, st73⟩ := X72.interfaceBack hx (xi := (⟨"java/util/Deque", "size", "()I"⟩ : MethodName)) (y := (⟨"java/util/ArrayDeque", "size", "()I"⟩ : MethodName)) hown (mvT hZ (hw _ (List.mem_of_getElem? (i := 117) rfl))) (mvT hZ (hw _ (List.mem_of_getElem? (i := 118) rfl))) (mvT hZ (hw _ (List.mem_of_getElem? (i := 119) rfl))) (mvT hZ (hw _ (List.mem_of_getElem? (i := 120) rfl))) (mvT hZ (hw _ (List.mem_of_getElem? (i := 121) rfl))) (mvT hZ (hw _ (List.mem_of_getElem? (i := 122) rfl))) (mvT hZ (hw _ (List.mem_of_getElem? (i := 123) rfl))) (mvT hZ (hw _ (List.mem_of_getElem? (i := 91) rfl))) (by decide) (backOf (W := 0) (rm_16 l Z a0 hw [] d ea kk b70 T71.heap n0 Z71 Ed71q Fe71q Fh71q Ft71q Va71q O_ea g_d g_ea hne) hZ (hw _ (List.mem_of_getElem? (i := 124) rfl)) (hw _ (List.mem_of_getElem? (i := 29) rfl)) (by decide) (by decide)) q73a q73b q73c (g := (mkF m 67 #[.val (.ref a1), .val (.long now), .second] [(.ref d)])) rfl (by rw [hml]; rfl) (Steps.refl _) (argsL := []) (rest := []) (lenOf pd___I rfl) rfl (by show 2 * 0 + _ ≤ _; exact Nat.le_of_eq rfl) (hb hby d11_67) (fun _ _ => ⟨rfl, e72, (by decide : 1 + 0 ≤ _), (by decide : 1 + 0 ≤ _)⟩)
  dsimp only [Pt.U, Pt.locs, Pt.cells, Pt.slots] at X73 l73 y73 z73 st73 hQ73
  subst l73 y73 z73
  obtain ⟨rfl, N73q, e73q⟩ := hQ73
  have N73 := Fr.app N71 N73q
  obtain ⟨T74, X74, e74, st74⟩ := getF X73 hx hZ hown (host := "") (Or.inl (hw _ (List.mem_of_getElem? (i := 51) rfl))) Via.refl e73q ((F_kicks.keep K70q nin0).keep K71q (ninS had (ninS hae nin0))) (g := (mkF m 73 #[.val (.ref a1), .val (.long now), .second] [(.ref a1), (.int (1 : Int32))])) rfl rfl (hb hby d11_73)
  obtain ⟨T75, X75, e75, st75⟩ := getF X74 hx hZ hown (host := "") (Or.inl (hw _ (List.mem_of_getElem? (i := 44) rfl))) Via.refl e74 ((F_times.keep K70q nin0).keep K71q (ninS had (ninS hae nin0))) (g := (mkF m 82 #[.val (.ref a1), .val (.long now), .second] [(.ref a1)])) rfl rfl (hb hby d11_82)
  obtain ⟨cq76, kq76, q76a, q76b, q76c⟩ := isOf hZ e75 Ed71q
  obtain ⟨_, _, ⟨T76, L76, k76, n76⟩, -, X76, ⟨Lc76, hQ76, l76, y76, z76⟩, st76⟩ := X75.own_interfaceBackUp hx (J := "java/util/Collection") (xi := (⟨"java/util/Deque", "clear", "()V"⟩ : MethodName)) (y := (⟨"java/util/ArrayDeque", "clear", "()V"⟩ : MethodName)) hown (mvT hZ (hw _ (List.mem_of_getElem? (i := 128) rfl))) (mvT hZ (hw _ (List.mem_of_getElem? (i := 129) rfl))) (by decide) (own_mvI hZ (hw _ (List.mem_of_getElem? (i := 130) rfl))) (by decide) (mvT hZ (hw _ (List.mem_of_getElem? (i := 131) rfl))) (mvT hZ (hw _ (List.mem_of_getElem? (i := 132) rfl))) (mvT hZ (hw _ (List.mem_of_getElem? (i := 133) rfl))) (mvT hZ (hw _ (List.mem_of_getElem? (i := 134) rfl))) (mvT hZ (hw _ (List.mem_of_getElem? (i := 91) rfl))) (by decide) (backOf (W := 0) (rm_18 l Z a0 hw [] d ea kk b70 T71.heap n0 Z71 Ed71q Fe71q Fh71q Ft71q Va71q O_ea g_d g_ea hne) hZ (hw _ (List.mem_of_getElem? (i := 135) rfl)) (hw _ (List.mem_of_getElem? (i := 29) rfl)) (by decide) (by decide)) q76a q76b q76c (g := (mkF m 85 #[.val (.ref a1), .val (.long now), .second] [(.ref d)])) rfl (by rw [hml]; rfl) (Steps.refl _) (argsL := []) (rest := []) (lenOf pd___V rfl) rfl (by show 2 * 0 + _ ≤ _; exact Nat.le_of_eq rfl) (hb hby d11_85) (fun _ _ => ⟨rfl, e75, (by decide : 1 + 0 ≤ _), (by decide : 1 + 0 ≤ _)⟩)
  dsimp only [Pt.U, Pt.locs, Pt.cells, Pt.slots] at X76 l76 y76 z76 st76 hQ76
  subst l76 y76 z76
  obtain ⟨rfl, N76q, K76q, Ed76q, Fe76q, Fh76q, Ft76q, Va76q⟩ := hQ76
  have N76 := Fr.app N73 N76q
  have K76 : Keep h0 T76.heap [a1, d, ea] := K71.trans K76q (allS (P := fun x => x ∈ [a1, d, ea] ∨ h0.size ≤ x) (Or.inl (List.mem_of_getElem? (i := 1) rfl)) (allS (P := fun x => x ∈ [a1, d, ea] ∨ h0.size ≤ x) (Or.inl (List.mem_of_getElem? (i := 2) rfl)) all0))
  have Z76 : n0 ≤ T76.heap.size := (Nat.le_trans Z71 K76q.1)
  obtain ⟨T77, h77, X77, e77, W77, st77⟩ := putFN X76 hx hZ hown (hw _ (List.mem_of_getElem? (i := 139) rfl)) Via.refl rfl (((F_banned.keep K70q nin0).keep K71q (ninS had (ninS hae nin0))).keep K76q (ninS had (ninS hae nin0))) (((E_a1.keep K70q).keep K71q).keep K76q) (Or.inl (hw _ (List.mem_of_getElem? (i := 140) rfl))) (hw _ (List.mem_of_getElem? (i := 6) rfl)) (ty := .boolean) (v' := (.int (1 : Int32))) (by decide) rfl rfl (g := (mkF m 92 #[.val (.ref a1), .val (.long now), .second] [(.int (1 : Int32)), (.ref a1)])) rfl rfl (hb hby d11_92)
  have Fw77 := (((F_banned.keep K70q nin0).keep K71q (ninS had (ninS hae nin0))).keep K76q (ninS had (ninS hae nin0))).same W77
  have K77 : Keep h0 h77 [a1, d, ea] := K76.wr W77 (Or.inl (List.mem_of_getElem? (i := 0) rfl))
  have N77 := Fr.snoc X77 N76 g_a1
  have Z77 : n0 ≤ h77.size := (Nat.le_trans Z76 (Nat.le_of_eq (Wr.size W77).symm))
  obtain ⟨T78, X78, e78, st78⟩ := getF X77 hx hZ hown (host := "") (Or.inl (hw _ (List.mem_of_getElem? (i := 76) rfl))) Via.refl e77 ((((F_forNanos.keep K70q nin0).keep K71q (ninS had (ninS hae nin0))).keep K76q (ninS had (ninS hae nin0))).other W77 (Or.inr (slot_ne (Or.inr (hw _ (List.mem_of_getElem? (i := 77) rfl))) (Or.inl (hw _ (List.mem_of_getElem? (i := 140) rfl))) (by decide) (t := .long) (t' := .boolean) (by decide) (by decide)))) (g := (mkF m 98 #[.val (.ref a1), .val (.long now), .second] [(.ref a1), (.long now), (.ref a1)])) rfl rfl (hb hby d11_98)
  obtain ⟨T79, h79, X79, e79, W79, st79⟩ := putF X78 hx hZ hown (host := "") (Or.inl (hw _ (List.mem_of_getElem? (i := 141) rfl))) Via.refl e78 ((((F_bannedUntil.keep K70q nin0).keep K71q (ninS had (ninS hae nin0))).keep K76q (ninS had (ninS hae nin0))).other W77 (Or.inr (slot_ne (Or.inl (hw _ (List.mem_of_getElem? (i := 142) rfl))) (Or.inl (hw _ (List.mem_of_getElem? (i := 140) rfl))) (by decide) (t := .long) (t' := .boolean) (by decide) (by decide)))) ((((E_a1.keep K70q).keep K71q).keep K76q).wr W77) (Or.inl (hw _ (List.mem_of_getElem? (i := 142) rfl))) (hw _ (List.mem_of_getElem? (i := 6) rfl)) (ty := .long) (by decide) rfl rfl (g := (mkF m 102 #[.val (.ref a1), .val (.long now), .second] [(.long (now + fn)), (.ref a1)])) rfl rfl (hb hby d11_102)
  have Fw79 := ((((F_bannedUntil.keep K70q nin0).keep K71q (ninS had (ninS hae nin0))).keep K76q (ninS had (ninS hae nin0))).other W77 (Or.inr (slot_ne (Or.inl (hw _ (List.mem_of_getElem? (i := 142) rfl))) (Or.inl (hw _ (List.mem_of_getElem? (i := 140) rfl))) (by decide) (t := .long) (t' := .boolean) (by decide) (by decide)))).same W79
  have K79 : Keep h0 h79 [a1, d, ea] := K77.wr W79 (Or.inl (List.mem_of_getElem? (i := 0) rfl))
  have N79 := Fr.snoc X79 N77 g_a1
  have Z79 : n0 ≤ h79.size := (Nat.le_trans Z77 (Nat.le_of_eq (Wr.size W79).symm))
  obtain ⟨fs, hr, hrun, hended, hW, hsame⟩ := X79.leave (v := some (.int (1 : Int32))) (fun h => by rw [Bd.returns] at h; cases h)
  refine ⟨_, _, pw0 _ ?_, hrun, hended, _, _, rfl, ?_, ⟨_, rfl⟩, hW, hsame.mono (by decide) (by decide)⟩
  · skip
    refine XS.aloadN X0.here hx rfl (hb hby d11_0) rfl rfl ?_
    show Steps p.tables e below (s₁.setTop (mkF m 1 #[.val (.ref a1), .val (.long now), .second] [(.ref a1)])) _
    refine st67 _ ?_
    show Steps p.tables e below (T67.setTop (mkF m 4 #[.val (.ref a1), .val (.long now), .second] [(.ref d)])) _
    refine st68.trans ?_
    show Steps p.tables e below (T68.setTop (mkF m 9 #[.val (.ref a1), .val (.long now), .second] [(.int (1 : Int32))])) _
    refine XS.ifYes X68.here hx rfl (pc0 := 9) (pc' := 50) rfl (hb hby d11_9) rfl ((if0 _ _).trans (feq (by decide : ¬ ((1 : Int32) = (0 : Int32)))).2) (by decide) (by decide) ?_
    show Steps p.tables e below (T68.setTop (mkF m 50 #[.val (.ref a1), .val (.long now), .second] [])) _
    refine XS.aloadN X68.here hx rfl (hb hby d11_50) rfl rfl ?_
    show Steps p.tables e below (T68.setTop (mkF m 51 #[.val (.ref a1), .val (.long now), .second] [(.ref a1)])) _
    refine st69 _ ?_
    show Steps p.tables e below (T69.setTop (mkF m 54 #[.val (.ref a1), .val (.long now), .second] [(.ref d)])) _
    refine XS.lloadN X69.here hx rfl (hb hby d11_54) rfl ?_
    show Steps p.tables e below (T69.setTop (mkF m 55 #[.val (.ref a1), .val (.long now), .second] [(.long now), (.ref d)])) _
    refine st70 _ ?_
    show Steps p.tables e below (T70.setTop (mkF m 58 #[.val (.ref a1), .val (.long now), .second] [(.ref b70), (.ref d)])) _
    refine st71.trans ?_
    show Steps p.tables e below (T71.setTop (mkF m 63 #[.val (.ref a1), .val (.long now), .second] [])) _
    refine XS.aloadN X71.here hx rfl (hb hby d11_63) rfl rfl ?_
    show Steps p.tables e below (T71.setTop (mkF m 64 #[.val (.ref a1), .val (.long now), .second] [(.ref a1)])) _
    refine st72 _ ?_
    show Steps p.tables e below (T72.setTop (mkF m 67 #[.val (.ref a1), .val (.long now), .second] [(.ref d)])) _
    refine st73.trans ?_
    show Steps p.tables e below (T73.setTop (mkF m 72 #[.val (.ref a1), .val (.long now), .second] [(.int (1 : Int32))])) _
    refine XS.aloadN X73.here hx rfl (hb hby d11_72) rfl rfl ?_
    show Steps p.tables e below (T73.setTop (mkF m 73 #[.val (.ref a1), .val (.long now), .second] [(.ref a1), (.int (1 : Int32))])) _
    refine st74 _ ?_
    show Steps p.tables e below (T74.setTop (mkF m 76 #[.val (.ref a1), .val (.long now), .second] [(.int (1 : Int32)), (.int (1 : Int32))])) _
    refine XS.icmpYes X74.here hx rfl (pc0 := 76) (pc' := 81) rfl (hb hby d11_76) rfl (flt (by decide : ¬ ((1 : Int32) < (1 : Int32)))).2.1 (by decide) (by decide) ?_
    show Steps p.tables e below (T74.setTop (mkF m 81 #[.val (.ref a1), .val (.long now), .second] [])) _
    refine XS.aloadN X74.here hx rfl (hb hby d11_81) rfl rfl ?_
    show Steps p.tables e below (T74.setTop (mkF m 82 #[.val (.ref a1), .val (.long now), .second] [(.ref a1)])) _
    refine st75 _ ?_
    show Steps p.tables e below (T75.setTop (mkF m 85 #[.val (.ref a1), .val (.long now), .second] [(.ref d)])) _
    refine st76.trans ?_
    show Steps p.tables e below (T76.setTop (mkF m 90 #[.val (.ref a1), .val (.long now), .second] [])) _
    refine XS.aloadN X76.here hx rfl (hb hby d11_90) rfl rfl ?_
    show Steps p.tables e below (T76.setTop (mkF m 91 #[.val (.ref a1), .val (.long now), .second] [(.ref a1)])) _
    refine XS.iconst X76.here hx rfl (hb hby d11_91) ?_
    show Steps p.tables e below (T76.setTop (mkF m 92 #[.val (.ref a1), .val (.long now), .second] [(.int (1 : Int32)), (.ref a1)])) _
    refine st77 _ ?_
    show Steps p.tables e below (T77.setTop (mkF m 95 #[.val (.ref a1), .val (.long now), .second] [])) _
    refine XS.aloadN X77.here hx rfl (hb hby d11_95) rfl rfl ?_
    show Steps p.tables e below (T77.setTop (mkF m 96 #[.val (.ref a1), .val (.long now), .second] [(.ref a1)])) _
    refine XS.lloadN X77.here hx rfl (hb hby d11_96) rfl ?_
    show Steps p.tables e below (T77.setTop (mkF m 97 #[.val (.ref a1), .val (.long now), .second] [(.long now), (.ref a1)])) _
    refine XS.aloadN X77.here hx rfl (hb hby d11_97) rfl rfl ?_
    show Steps p.tables e below (T77.setTop (mkF m 98 #[.val (.ref a1), .val (.long now), .second] [(.ref a1), (.long now), (.ref a1)])) _
    refine st78 _ ?_
    show Steps p.tables e below (T78.setTop (mkF m 101 #[.val (.ref a1), .val (.long now), .second] [(.long fn), (.long now), (.ref a1)])) _
    refine XS.ladd X78.here hx rfl (hb hby d11_101) rfl ?_
    show Steps p.tables e below (T78.setTop (mkF m 102 #[.val (.ref a1), .val (.long now), .second] [(.long (now + fn)), (.ref a1)])) _
    refine st79 _ ?_
    show Steps p.tables e below (T79.setTop (mkF m 105 #[.val (.ref a1), .val (.long now), .second] [])) _
    refine XS.iconst X79.here hx rfl (hb hby d11_105) ?_
    show Steps p.tables e below (T79.setTop (mkF m 106 #[.val (.ref a1), .val (.long now), .second] [(.int (1 : Int32))])) _
    exact retN X79 hx (t := .boolean) Bd.returns (by simp) (hb hby d11_106) hr
  · show Q_11a Z a1 now fn bn bu d ea kk cl ca h0 n0 _ T79.heap _
    rw [e79]
    exact ⟨rfl, N79, K79, (((((E_a1.keep K70q).keep K71q).keep K76q).wr W77).wr W79), (((((F_kicks.keep K70q nin0).keep K71q (ninS had (ninS hae nin0))).keep K76q (ninS had (ninS hae nin0))).other W77 (Or.inr (slot_ne (Or.inr (hw _ (List.mem_of_getElem? (i := 52) rfl))) (Or.inl (hw _ (List.mem_of_getElem? (i := 140) rfl))) (by decide) (t := .int) (t' := .boolean) (by decide) (by decide)))).other W79 (Or.inr (slot_ne (Or.inr (hw _ (List.mem_of_getElem? (i := 52) rfl))) (Or.inl (hw _ (List.mem_of_getElem? (i := 142) rfl))) (by decide) (t := .int) (t' := .long) (by decide) (by decide)))), (((((F_forNanos.keep K70q nin0).keep K71q (ninS had (ninS hae nin0))).keep K76q (ninS had (ninS hae nin0))).other W77 (Or.inr (slot_ne (Or.inr (hw _ (List.mem_of_getElem? (i := 77) rfl))) (Or.inl (hw _ (List.mem_of_getElem? (i := 140) rfl))) (by decide) (t := .long) (t' := .boolean) (by decide) (by decide)))).other W79 (Or.inr (slot_ne (Or.inr (hw _ (List.mem_of_getElem? (i := 77) rfl))) (Or.inl (hw _ (List.mem_of_getElem? (i := 142) rfl))) (by decide) (t := .long) (t' := .long) (by decide) (by decide)))), (Fw77.other W79 (Or.inr (slot_ne (Or.inl (hw _ (List.mem_of_getElem? (i := 140) rfl))) (Or.inl (hw _ (List.mem_of_getElem? (i := 142) rfl))) (by decide) (t := .boolean) (t' := .long) (by decide) (by decide)))), Fw79, (((((F_times.keep K70q nin0).keep K71q (ninS had (ninS hae nin0))).keep K76q (ninS had (ninS hae nin0))).other W77 (Or.inr (slot_ne (Or.inr (hw _ (List.mem_of_getElem? (i := 45) rfl))) (Or.inl (hw _ (List.mem_of_getElem? (i := 140) rfl))) (by decide) (t := (.object "java/util/Deque")) (t' := .boolean) (by decide) (by decide)))).other W79 (Or.inr (slot_ne (Or.inr (hw _ (List.mem_of_getElem? (i := 45) rfl))) (Or.inl (hw _ (List.mem_of_getElem? (i := 142) rfl))) (by decide) (t := (.object "java/util/Deque")) (t' := .long) (by decide) (by decide)))), ((Ed76q.wr W77).wr W79), ((Fe76q.other W77 (Or.inl (Ne.symm had))).other W79 (Or.inl (Ne.symm had))), ((Fh76q.other W77 (Or.inl (Ne.symm had))).other W79 (Or.inl (Ne.symm had))), ((Ft76q.other W77 (Or.inl (Ne.symm had))).other W79 (Or.inl (Ne.symm had))), ((Va76q.other W77 (Ne.symm hae)).other W79 (Ne.symm hae))⟩
theorem d11_79 : decode prog_17_method_2_code 79 = .ok (.iconst 0, 1) := by decide +kernel
theorem d11_80 : decode prog_17_method_2_code 80 = .ok (.ireturn, 1) := by decide +kernel
theorem ef_11b (m : MethodId) (x0 : Addr) (x1 : Int64) : entryFrame m #[(.ref x0), (.long x1)] 3 = mkF m 0 #[.val (.ref x0), .val (.long x1), .second] [] := by first | (simp [entryFrame, mkF, argsToLocals, Value.category]; done) | rfl
def Q_11b (Z : State) (a1 : Addr) (now : Int64) (fn : Int64) (bn : Int32) (bu : Int64) (d ea : Addr) (kk : ClassId) (cl : Cell) (ca : Addr) (h0 : Heap) (n0 : Nat) (v : Option Value) (h : Heap) (L : List Loc) : Prop := v = some (.int 0) ∧ Fr n0 L ∧ Keep h0 h [a1, d, ea] ∧ Exa Z h a1 "com/example/gated_chorus/gatedchorus/limit/Kicks" ∧ Fld Z h a1 "com/example/gated_chorus/gatedchorus/limit/Kicks" "kicks" "I" (.int (2 : Int32)) ∧ Fld Z h a1 "com/example/gated_chorus/gatedchorus/limit/Kicks" "forNanos" "J" (.long fn) ∧ Fld Z h a1 "com/example/gated_chorus/gatedchorus/limit/Kicks" "banned" "Z" (.int bn) ∧ Fld Z h a1 "com/example/gated_chorus/gatedchorus/limit/Kicks" "bannedUntil" "J" (.long bu)
set_option maxRecDepth 65536 in
set_option maxHeartbeats 40000000 in
theorem rm_11b (l : Launch) (Z : State) (a0 : Array Value) (hw : ∀ d ∈ tables_1, d.before a0 Z = true) (ws : List Jvm.Cond) (a1 : Addr) (now : Int64) (fn : Int64) (bn : Int32) (bu : Int64) (d ea : Addr) (kk : ClassId) (cl : Cell) (ca : Addr) (h0 : Heap) (n0 : Nat) (Z0 : n0 ≤ h0.size) (E_a1 : Exa Z h0 a1 "com/example/gated_chorus/gatedchorus/limit/Kicks") (F_kicks : Fld Z h0 a1 "com/example/gated_chorus/gatedchorus/limit/Kicks" "kicks" "I" (.int (2 : Int32))) (F_forNanos : Fld Z h0 a1 "com/example/gated_chorus/gatedchorus/limit/Kicks" "forNanos" "J" (.long fn)) (F_banned : Fld Z h0 a1 "com/example/gated_chorus/gatedchorus/limit/Kicks" "banned" "Z" (.int bn)) (F_bannedUntil : Fld Z h0 a1 "com/example/gated_chorus/gatedchorus/limit/Kicks" "bannedUntil" "J" (.long bu)) (F_times : Fld Z h0 a1 "com/example/gated_chorus/gatedchorus/limit/Kicks" "times" "Ljava/util/Deque;" (.ref d)) (E_d : Exa Z h0 d "java/util/ArrayDeque") (D_elements : Fld Z h0 d "java/util/ArrayDeque" "elements" "[Ljava/lang/Object;" (.ref ea)) (D_head : Fld Z h0 d "java/util/ArrayDeque" "head" "I" (.int (0 : Int32))) (D_tail : Fld Z h0 d "java/util/ArrayDeque" "tail" "I" (.int (0 : Int32))) (V_ea : Arv Z h0 ea kk (.object "java/lang/Object") (17 : Int32) [.null] .null) (O_ea : Ovr Z kk "java/lang/Object") (g_a1 : n0 ≤ a1) (g_d : n0 ≤ d) (g_ea : n0 ≤ ea) (hne : d ≠ ea) (had : a1 ≠ d) (hae : a1 ≠ ea) (S_c : Sta Z h0 "java/lang/Long$LongCache" "cache" "[Ljava/lang/Long;" (.ref ca)) (Ar_c : Arr Z h0 ca cl (.object "java/lang/Long")) (hsz : cl.slots.size = 256) (hcache : ∀ j : Int32, ¬ (j < 0 ∨ cl.slots.size ≤ j.toNatClampNeg) → ∃ b, cl.slots[j.toNatClampNeg]? = some (.ref b) ∧ Exa Z h0 b "java/lang/Long") :
    MetFree l (⟨"com/example/gated_chorus/gatedchorus/limit/Kicks", "kick", "(J)Z"⟩ : MethodName) (head1 (Jvm.Cond.code (⟨"com/example/gated_chorus/gatedchorus/limit/Kicks", "kick", "(J)Z"⟩ : MethodName) prog_17_method_2_code 3 (some .boolean) :: ws) ({ frames := 4, cells := 1, slots := 1, locals := 54 } : Room)) (fun a U => a = #[(.ref a1), (.long now)] ∧ Z.Warmed39 U.vm ∧ U.heap = h0) (fun _ _ _ _ _ => True) (fun _ U o U' => ∃ v L, o = .returned v ∧ Q_11b Z a1 now fn bn bu d ea kk cl ca h0 n0 v U'.heap L ∧ FrameEnd U o U' L ({ frames := 4, cells := 1, slots := 1, locals := 54 } : Room).cells ({ frames := 4, cells := 1, slots := 1, locals := 54 } : Room).slots) := by
  refine MetFree.of_bodySF (plainFor_of_name pn_com_example_gated_chorus_gatedchorus_limit_Kicks) hisR ?_
  intro p e s m args below meth c s₁ Bd hml0 hP hK
  obtain ⟨rfl, hZ, hh⟩ := hP
  have hx := Bd.exec
  have hby := Bd.bytes
  have hml : c.maxLocals = 3 := hml0
  have hown : s.vm.findClass "com/example/gated_chorus/gatedchorus/limit/Kicks" = some m.cls := findClass_of_methodNamed Bd.named
  have hnm := (name_of_methodNamed Bd.named Bd.method).1
  have X0 : Stand p l e ({ frames := 4, cells := 1, slots := 1, locals := 54 } : Room) s m #[(.ref a1), (.long now)] below meth c s₁ [] 0 0 := Stand.of_body Bd
  have e0 : s₁.heap = h0 := by rw [← hh, Bd.state]; rfl
  have N0 := Fr.nil n0
  have pw0 : ∀ t, Steps p.tables e below (s₁.setTop (mkF m 0 #[.val (.ref a1), .val (.long now), .second] [])) t → Steps p.tables e below (s₁.setTop (entryFrame m #[(.ref a1), (.long now)] 3)) t := fun t k => castTop (ef_11b m a1 now) k
  have K0 : Keep h0 h0 [a1, d, ea] := Keep.refl h0 [a1, d, ea]
  obtain ⟨T80, X80, e80, st80⟩ := getF X0 hx hZ hown (host := "") (Or.inl (hw _ (List.mem_of_getElem? (i := 44) rfl))) Via.refl e0 F_times (g := (mkF m 1 #[.val (.ref a1), .val (.long now), .second] [(.ref a1)])) rfl rfl (hb hby d11_1)
  obtain ⟨cq81, kq81, q81a, q81b, q81c⟩ := isOf hZ e80 E_d
  obtain ⟨_, _, ⟨T81, L81, k81, n81⟩, -, X81, ⟨Lc81, hQ81, l81, y81, z81⟩, st81⟩ := X80.own_interfaceBackUp hx (J := "java/util/Collection") (xi := (⟨"java/util/Deque", "isEmpty", "()Z"⟩ : MethodName)) (y := (⟨"java/util/ArrayDeque", "isEmpty", "()Z"⟩ : MethodName)) hown (mvT hZ (hw _ (List.mem_of_getElem? (i := 84) rfl))) (mvT hZ (hw _ (List.mem_of_getElem? (i := 85) rfl))) (by decide) (own_mvI hZ (hw _ (List.mem_of_getElem? (i := 86) rfl))) (by decide) (mvT hZ (hw _ (List.mem_of_getElem? (i := 87) rfl))) (mvT hZ (hw _ (List.mem_of_getElem? (i := 88) rfl))) (mvT hZ (hw _ (List.mem_of_getElem? (i := 89) rfl))) (mvT hZ (hw _ (List.mem_of_getElem? (i := 90) rfl))) (mvT hZ (hw _ (List.mem_of_getElem? (i := 91) rfl))) (by decide) (backOf (W := 0) (rm_12 l Z a0 hw [] d h0 n0 Z0 D_head D_tail) hZ (hw _ (List.mem_of_getElem? (i := 92) rfl)) (hw _ (List.mem_of_getElem? (i := 29) rfl)) (by decide) (by decide)) q81a q81b q81c (g := (mkF m 4 #[.val (.ref a1), .val (.long now), .second] [(.ref d)])) rfl (by rw [hml]; rfl) (Steps.refl _) (argsL := []) (rest := []) (lenOf pd___Z rfl) rfl (by show 2 * 0 + _ ≤ _; exact Nat.le_of_eq rfl) (hb hby d11_4) (fun _ _ => ⟨rfl, e80, (by decide : 0 + 0 ≤ _), (by decide : 0 + 0 ≤ _)⟩)
  dsimp only [Pt.U, Pt.locs, Pt.cells, Pt.slots] at X81 l81 y81 z81 st81 hQ81
  subst l81 y81 z81
  obtain ⟨rfl, N81q, e81q⟩ := hQ81
  have N81 := Fr.app N0 N81q
  obtain ⟨T82, X82, e82, st82⟩ := getF X81 hx hZ hown (host := "") (Or.inl (hw _ (List.mem_of_getElem? (i := 44) rfl))) Via.refl e81q F_times (g := (mkF m 51 #[.val (.ref a1), .val (.long now), .second] [(.ref a1)])) rfl rfl (hb hby d11_51)
  obtain ⟨_, _, ⟨T83, L83, k83, n83⟩, -, X83, ⟨Lc83, hQ83, l83, y83, z83⟩, st83⟩ := Jvm.LawKit.callS X82 hx (y := (⟨"java/lang/Long", "valueOf", "(J)Ljava/lang/Long;"⟩ : MethodName)) hown (mvT hZ (hw _ (List.mem_of_getElem? (i := 97) rfl))) (mvT hZ (hw _ (List.mem_of_getElem? (i := 98) rfl))) (mvT hZ (hw _ (List.mem_of_getElem? (i := 99) rfl))) (mvT hZ (hw _ (List.mem_of_getElem? (i := 100) rfl))) (by decide) (backOf (W := 1) (rm_13 l Z a0 hw [] now cl ca h0 n0 Z0 S_c Ar_c hsz hcache) hZ (hw _ (List.mem_of_getElem? (i := 100) rfl)) (hw _ (List.mem_of_getElem? (i := 99) rfl)) (by decide) (by decide)) (g := (mkF m 55 #[.val (.ref a1), .val (.long now), .second] [(.long now), (.ref d)])) rfl (by rw [hml]; rfl) (argsL := [(.long now)]) (rest := [(.ref d)]) (lenOf pd__J_Ljava_lang_Long_ rfl) rfl (by show 2 * 0 + _ ≤ _; exact Nat.le_of_eq rfl) (hb hby d11_55) (fun _ _ => ⟨rfl, e82, (by decide : 0 + 1 ≤ _), (by decide : 0 + 1 ≤ _)⟩)
  dsimp only [Pt.U, Pt.locs, Pt.cells, Pt.slots] at X83 l83 y83 z83 st83 hQ83
  subst l83 y83 z83
  obtain ⟨b83, rfl, N83q, K83q, E83q⟩ := hQ83
  have N83 := Fr.app N81 N83q
  have K83 : Keep h0 T83.heap [a1, d, ea] := K0.trans K83q all0
  have Z83 : n0 ≤ T83.heap.size := (Nat.le_trans Z0 K83q.1)
  obtain ⟨cq84, kq84, q84a, q84b, q84c⟩ := isOf hZ rfl (E_d.keep K83q)
  obtain ⟨_, _, ⟨T84, L84, k84, n84⟩, -, X84, ⟨Lc84, hQ84, l84, y84, z84⟩, st84⟩ := X83.interfaceBack hx (xi := (⟨"java/util/Deque", "addLast", "(Ljava/lang/Object;)V"⟩ : MethodName)) (y := (⟨"java/util/ArrayDeque", "addLast", "(Ljava/lang/Object;)V"⟩ : MethodName)) hown (mvT hZ (hw _ (List.mem_of_getElem? (i := 105) rfl))) (mvT hZ (hw _ (List.mem_of_getElem? (i := 106) rfl))) (mvT hZ (hw _ (List.mem_of_getElem? (i := 107) rfl))) (mvT hZ (hw _ (List.mem_of_getElem? (i := 108) rfl))) (mvT hZ (hw _ (List.mem_of_getElem? (i := 109) rfl))) (mvT hZ (hw _ (List.mem_of_getElem? (i := 110) rfl))) (mvT hZ (hw _ (List.mem_of_getElem? (i := 111) rfl))) (mvT hZ (hw _ (List.mem_of_getElem? (i := 91) rfl))) (by decide) (backOf (W := 0) (rm_14 l Z a0 hw [] d b83 ea kk T83.heap n0 Z83 (E_d.keep K83q) (D_elements.keep K83q nin0) (D_head.keep K83q nin0) (D_tail.keep K83q nin0) (V_ea.keep K83q nin0) O_ea g_d g_ea hne E83q) hZ (hw _ (List.mem_of_getElem? (i := 112) rfl)) (hw _ (List.mem_of_getElem? (i := 29) rfl)) (by decide) (by decide)) q84a q84b q84c (g := (mkF m 58 #[.val (.ref a1), .val (.long now), .second] [(.ref b83), (.ref d)])) rfl (by rw [hml]; rfl) (Steps.refl _) (argsL := [(.ref b83)]) (rest := []) (lenOf pd__Ljava_lang_Object__V rfl) rfl (by show 2 * 0 + _ ≤ _; exact Nat.le_of_eq rfl) (hb hby d11_58) (fun _ _ => ⟨rfl, rfl, (by decide : 1 + 0 ≤ _), (by decide : 1 + 0 ≤ _)⟩)
  dsimp only [Pt.U, Pt.locs, Pt.cells, Pt.slots] at X84 l84 y84 z84 st84 hQ84
  subst l84 y84 z84
  obtain ⟨rfl, N84q, K84q, Ed84q, Fe84q, Fh84q, Ft84q, Va84q⟩ := hQ84
  have N84 := Fr.app N83 N84q
  have K84 : Keep h0 T84.heap [a1, d, ea] := K83.trans K84q (allS (P := fun x => x ∈ [a1, d, ea] ∨ h0.size ≤ x) (Or.inl (List.mem_of_getElem? (i := 1) rfl)) (allS (P := fun x => x ∈ [a1, d, ea] ∨ h0.size ≤ x) (Or.inl (List.mem_of_getElem? (i := 2) rfl)) all0))
  have Z84 : n0 ≤ T84.heap.size := (Nat.le_trans Z83 K84q.1)
  obtain ⟨T85, X85, e85, st85⟩ := getF X84 hx hZ hown (host := "") (Or.inl (hw _ (List.mem_of_getElem? (i := 44) rfl))) Via.refl rfl ((F_times.keep K83q nin0).keep K84q (ninS had (ninS hae nin0))) (g := (mkF m 64 #[.val (.ref a1), .val (.long now), .second] [(.ref a1)])) rfl rfl (hb hby d11_64)
  obtain ⟨cq86, kq86, q86a, q86b, q86c⟩ := isOf hZ e85 Ed84q
  obtain ⟨_, _, ⟨T86, L86, k86, n86⟩, -, X86, ⟨Lc86, hQ86, l86, y86, z86⟩, st86⟩ := X85.interfaceBack hx (xi := (⟨"java/util/Deque", "size", "()I"⟩ : MethodName)) (y := (⟨"java/util/ArrayDeque", "size", "()I"⟩ : MethodName)) hown (mvT hZ (hw _ (List.mem_of_getElem? (i := 117) rfl))) (mvT hZ (hw _ (List.mem_of_getElem? (i := 118) rfl))) (mvT hZ (hw _ (List.mem_of_getElem? (i := 119) rfl))) (mvT hZ (hw _ (List.mem_of_getElem? (i := 120) rfl))) (mvT hZ (hw _ (List.mem_of_getElem? (i := 121) rfl))) (mvT hZ (hw _ (List.mem_of_getElem? (i := 122) rfl))) (mvT hZ (hw _ (List.mem_of_getElem? (i := 123) rfl))) (mvT hZ (hw _ (List.mem_of_getElem? (i := 91) rfl))) (by decide) (backOf (W := 0) (rm_16 l Z a0 hw [] d ea kk b83 T84.heap n0 Z84 Ed84q Fe84q Fh84q Ft84q Va84q O_ea g_d g_ea hne) hZ (hw _ (List.mem_of_getElem? (i := 124) rfl)) (hw _ (List.mem_of_getElem? (i := 29) rfl)) (by decide) (by decide)) q86a q86b q86c (g := (mkF m 67 #[.val (.ref a1), .val (.long now), .second] [(.ref d)])) rfl (by rw [hml]; rfl) (Steps.refl _) (argsL := []) (rest := []) (lenOf pd___I rfl) rfl (by show 2 * 0 + _ ≤ _; exact Nat.le_of_eq rfl) (hb hby d11_67) (fun _ _ => ⟨rfl, e85, (by decide : 1 + 0 ≤ _), (by decide : 1 + 0 ≤ _)⟩)
  dsimp only [Pt.U, Pt.locs, Pt.cells, Pt.slots] at X86 l86 y86 z86 st86 hQ86
  subst l86 y86 z86
  obtain ⟨rfl, N86q, e86q⟩ := hQ86
  have N86 := Fr.app N84 N86q
  obtain ⟨T87, X87, e87, st87⟩ := getF X86 hx hZ hown (host := "") (Or.inl (hw _ (List.mem_of_getElem? (i := 51) rfl))) Via.refl e86q ((F_kicks.keep K83q nin0).keep K84q (ninS had (ninS hae nin0))) (g := (mkF m 73 #[.val (.ref a1), .val (.long now), .second] [(.ref a1), (.int (1 : Int32))])) rfl rfl (hb hby d11_73)
  obtain ⟨fs, hr, hrun, hended, hW, hsame⟩ := X87.leave (v := some (.int (0 : Int32))) (fun h => by rw [Bd.returns] at h; cases h)
  refine ⟨_, _, pw0 _ ?_, hrun, hended, _, _, rfl, ?_, ⟨_, rfl⟩, hW, hsame.mono (by decide) (by decide)⟩
  · skip
    refine XS.aloadN X0.here hx rfl (hb hby d11_0) rfl rfl ?_
    show Steps p.tables e below (s₁.setTop (mkF m 1 #[.val (.ref a1), .val (.long now), .second] [(.ref a1)])) _
    refine st80 _ ?_
    show Steps p.tables e below (T80.setTop (mkF m 4 #[.val (.ref a1), .val (.long now), .second] [(.ref d)])) _
    refine st81.trans ?_
    show Steps p.tables e below (T81.setTop (mkF m 9 #[.val (.ref a1), .val (.long now), .second] [(.int (1 : Int32))])) _
    refine XS.ifYes X81.here hx rfl (pc0 := 9) (pc' := 50) rfl (hb hby d11_9) rfl ((if0 _ _).trans (feq (by decide : ¬ ((1 : Int32) = (0 : Int32)))).2) (by decide) (by decide) ?_
    show Steps p.tables e below (T81.setTop (mkF m 50 #[.val (.ref a1), .val (.long now), .second] [])) _
    refine XS.aloadN X81.here hx rfl (hb hby d11_50) rfl rfl ?_
    show Steps p.tables e below (T81.setTop (mkF m 51 #[.val (.ref a1), .val (.long now), .second] [(.ref a1)])) _
    refine st82 _ ?_
    show Steps p.tables e below (T82.setTop (mkF m 54 #[.val (.ref a1), .val (.long now), .second] [(.ref d)])) _
    refine XS.lloadN X82.here hx rfl (hb hby d11_54) rfl ?_
    show Steps p.tables e below (T82.setTop (mkF m 55 #[.val (.ref a1), .val (.long now), .second] [(.long now), (.ref d)])) _
    refine st83 _ ?_
    show Steps p.tables e below (T83.setTop (mkF m 58 #[.val (.ref a1), .val (.long now), .second] [(.ref b83), (.ref d)])) _
    refine st84.trans ?_
    show Steps p.tables e below (T84.setTop (mkF m 63 #[.val (.ref a1), .val (.long now), .second] [])) _
    refine XS.aloadN X84.here hx rfl (hb hby d11_63) rfl rfl ?_
    show Steps p.tables e below (T84.setTop (mkF m 64 #[.val (.ref a1), .val (.long now), .second] [(.ref a1)])) _
    refine st85 _ ?_
    show Steps p.tables e below (T85.setTop (mkF m 67 #[.val (.ref a1), .val (.long now), .second] [(.ref d)])) _
    refine st86.trans ?_
    show Steps p.tables e below (T86.setTop (mkF m 72 #[.val (.ref a1), .val (.long now), .second] [(.int (1 : Int32))])) _
    refine XS.aloadN X86.here hx rfl (hb hby d11_72) rfl rfl ?_
    show Steps p.tables e below (T86.setTop (mkF m 73 #[.val (.ref a1), .val (.long now), .second] [(.ref a1), (.int (1 : Int32))])) _
    refine st87 _ ?_
    show Steps p.tables e below (T87.setTop (mkF m 76 #[.val (.ref a1), .val (.long now), .second] [(.int (2 : Int32)), (.int (1 : Int32))])) _
    refine XS.icmpNo X87.here hx rfl (hb hby d11_76) rfl (tlt (by decide : (1 : Int32) < (2 : Int32))).2.1 ?_
    show Steps p.tables e below (T87.setTop (mkF m 79 #[.val (.ref a1), .val (.long now), .second] [])) _
    refine XS.iconst X87.here hx rfl (hb hby d11_79) ?_
    show Steps p.tables e below (T87.setTop (mkF m 80 #[.val (.ref a1), .val (.long now), .second] [(.int (0 : Int32))])) _
    exact retN X87 hx (t := .boolean) Bd.returns (by simp) (hb hby d11_80) hr
  · show Q_11b Z a1 now fn bn bu d ea kk cl ca h0 n0 _ T87.heap _
    rw [e87]
    exact ⟨rfl, N86, K84, ((E_a1.keep K83q).keep K84q), ((F_kicks.keep K83q nin0).keep K84q (ninS had (ninS hae nin0))), ((F_forNanos.keep K83q nin0).keep K84q (ninS had (ninS hae nin0))), ((F_banned.keep K83q nin0).keep K84q (ninS had (ninS hae nin0))), ((F_bannedUntil.keep K83q nin0).keep K84q (ninS had (ninS hae nin0)))⟩
theorem d20_0 : decode prog_17_method_3_code 0 = .ok (.aload_n 0, 1) := by decide +kernel
theorem d20_1 : decode prog_17_method_3_code 1 = .ok (.getfield 81, 3) := by decide +kernel
theorem d20_4 : decode prog_17_method_3_code 4 = .ok (.ifCond .eq 18, 3) := by decide +kernel
theorem d20_22 : decode prog_17_method_3_code 22 = .ok (.iconst 0, 1) := by decide +kernel
theorem d20_23 : decode prog_17_method_3_code 23 = .ok (.ireturn, 1) := by decide +kernel
theorem ef_20z (m : MethodId) (x0 : Addr) (x1 : Int64) : entryFrame m #[(.ref x0), (.long x1)] 3 = mkF m 0 #[.val (.ref x0), .val (.long x1), .second] [] := by first | (simp [entryFrame, mkF, argsToLocals, Value.category]; done) | rfl
def Q_20z (Z : State) (a1 : Addr) (now : Int64) (bu : Int64) (h0 : Heap) (n0 : Nat) (v : Option Value) (h : Heap) (L : List Loc) : Prop := v = some (.int 0) ∧ Fr n0 L ∧ h = h0
set_option maxRecDepth 65536 in
set_option maxHeartbeats 40000000 in
theorem rm_20z (l : Launch) (Z : State) (a0 : Array Value) (hw : ∀ d ∈ tables_1, d.before a0 Z = true) (ws : List Jvm.Cond) (a1 : Addr) (now : Int64) (bu : Int64) (h0 : Heap) (n0 : Nat) (Z0 : n0 ≤ h0.size) (F_bn : Fld Z h0 a1 "com/example/gated_chorus/gatedchorus/limit/Kicks" "banned" "Z" (.int (0 : Int32))) (F_bu : Fld Z h0 a1 "com/example/gated_chorus/gatedchorus/limit/Kicks" "bannedUntil" "J" (.long bu)) :
    MetFree l (⟨"com/example/gated_chorus/gatedchorus/limit/Kicks", "isBanned", "(J)Z"⟩ : MethodName) (head1 (Jvm.Cond.code (⟨"com/example/gated_chorus/gatedchorus/limit/Kicks", "isBanned", "(J)Z"⟩ : MethodName) prog_17_method_3_code 3 (some .boolean) :: ws) ({ frames := 0, cells := 0, slots := 0, locals := 0 } : Room)) (fun a U => a = #[(.ref a1), (.long now)] ∧ Z.Warmed39 U.vm ∧ U.heap = h0) (fun _ _ _ _ _ => True) (fun _ U o U' => ∃ v L, o = .returned v ∧ Q_20z Z a1 now bu h0 n0 v U'.heap L ∧ FrameEnd U o U' L ({ frames := 0, cells := 0, slots := 0, locals := 0 } : Room).cells ({ frames := 0, cells := 0, slots := 0, locals := 0 } : Room).slots) := by
  refine MetFree.of_bodySF (plainFor_of_name pn_com_example_gated_chorus_gatedchorus_limit_Kicks) hisR ?_
  intro p e s m args below meth c s₁ Bd hml0 hP hK
  obtain ⟨rfl, hZ, hh⟩ := hP
  have hx := Bd.exec
  have hby := Bd.bytes
  have hml : c.maxLocals = 3 := hml0
  have hown : s.vm.findClass "com/example/gated_chorus/gatedchorus/limit/Kicks" = some m.cls := findClass_of_methodNamed Bd.named
  have hnm := (name_of_methodNamed Bd.named Bd.method).1
  have X0 : Stand p l e ({ frames := 0, cells := 0, slots := 0, locals := 0 } : Room) s m #[(.ref a1), (.long now)] below meth c s₁ [] 0 0 := Stand.of_body Bd
  have e0 : s₁.heap = h0 := by rw [← hh, Bd.state]; rfl
  have N0 := Fr.nil n0
  have pw0 : ∀ t, Steps p.tables e below (s₁.setTop (mkF m 0 #[.val (.ref a1), .val (.long now), .second] [])) t → Steps p.tables e below (s₁.setTop (entryFrame m #[(.ref a1), (.long now)] 3)) t := fun t k => castTop (ef_20z m a1 now) k
  have K0 : Keep h0 h0 [] := Keep.refl h0 []
  obtain ⟨T88, X88, e88, st88⟩ := getF X0 hx hZ hown (host := "") (Or.inl (hw _ (List.mem_of_getElem? (i := 139) rfl))) Via.refl e0 F_bn (g := (mkF m 1 #[.val (.ref a1), .val (.long now), .second] [(.ref a1)])) rfl rfl (hb hby d20_1)
  obtain ⟨fs, hr, hrun, hended, hW, hsame⟩ := X88.leave (v := some (.int (0 : Int32))) (fun h => by rw [Bd.returns] at h; cases h)
  refine ⟨_, _, pw0 _ ?_, hrun, hended, _, _, rfl, ?_, ⟨_, rfl⟩, hW, hsame.mono (by decide) (by decide)⟩
  · skip
    refine XS.aloadN X0.here hx rfl (hb hby d20_0) rfl rfl ?_
    show Steps p.tables e below (s₁.setTop (mkF m 1 #[.val (.ref a1), .val (.long now), .second] [(.ref a1)])) _
    refine st88 _ ?_
    show Steps p.tables e below (T88.setTop (mkF m 4 #[.val (.ref a1), .val (.long now), .second] [(.int (0 : Int32))])) _
    refine XS.ifYes X88.here hx rfl (pc0 := 4) (pc' := 22) rfl (hb hby d20_4) rfl ((if0 _ _).trans (teq (by decide : (0 : Int32) = (0 : Int32))).1) (by decide) (by decide) ?_
    show Steps p.tables e below (T88.setTop (mkF m 22 #[.val (.ref a1), .val (.long now), .second] [])) _
    refine XS.iconst X88.here hx rfl (hb hby d20_22) ?_
    show Steps p.tables e below (T88.setTop (mkF m 23 #[.val (.ref a1), .val (.long now), .second] [(.int (0 : Int32))])) _
    exact retN X88 hx (t := .boolean) Bd.returns (by simp) (hb hby d20_23) hr
  · show Q_20z Z a1 now bu h0 n0 _ T88.heap _
    rw [e88]
    exact ⟨rfl, N0, rfl⟩
theorem d20_7 : decode prog_17_method_3_code 7 = .ok (.lload_n 1, 1) := by decide +kernel
theorem d20_8 : decode prog_17_method_3_code 8 = .ok (.aload_n 0, 1) := by decide +kernel
theorem d20_9 : decode prog_17_method_3_code 9 = .ok (.getfield 85, 3) := by decide +kernel
theorem d20_12 : decode prog_17_method_3_code 12 = .ok (.lsub, 1) := by decide +kernel
theorem d20_13 : decode prog_17_method_3_code 13 = .ok (.lconst 0, 1) := by decide +kernel
theorem d20_14 : decode prog_17_method_3_code 14 = .ok (.lcmp, 1) := by decide +kernel
theorem d20_15 : decode prog_17_method_3_code 15 = .ok (.ifCond .ge 7, 3) := by decide +kernel
theorem d20_18 : decode prog_17_method_3_code 18 = .ok (.iconst 1, 1) := by decide +kernel
theorem d20_19 : decode prog_17_method_3_code 19 = .ok (.goto 4, 3) := by decide +kernel
theorem ef_20o (m : MethodId) (x0 : Addr) (x1 : Int64) : entryFrame m #[(.ref x0), (.long x1)] 3 = mkF m 0 #[.val (.ref x0), .val (.long x1), .second] [] := by first | (simp [entryFrame, mkF, argsToLocals, Value.category]; done) | rfl
def Q_20o (Z : State) (a1 : Addr) (now : Int64) (bu : Int64) (r : Int32) (h0 : Heap) (n0 : Nat) (v : Option Value) (h : Heap) (L : List Loc) : Prop := v = some (.int r) ∧ Fr n0 L ∧ h = h0
set_option maxRecDepth 65536 in
set_option maxHeartbeats 40000000 in
theorem rm_20o (l : Launch) (Z : State) (a0 : Array Value) (hw : ∀ d ∈ tables_1, d.before a0 Z = true) (ws : List Jvm.Cond) (a1 : Addr) (now : Int64) (bu : Int64) (r : Int32) (h0 : Heap) (n0 : Nat) (Z0 : n0 ≤ h0.size) (F_bn : Fld Z h0 a1 "com/example/gated_chorus/gatedchorus/limit/Kicks" "banned" "Z" (.int (1 : Int32))) (F_bu : Fld Z h0 a1 "com/example/gated_chorus/gatedchorus/limit/Kicks" "bannedUntil" "J" (.long bu)) (hsp : own_ban now bu = r) :
    MetFree l (⟨"com/example/gated_chorus/gatedchorus/limit/Kicks", "isBanned", "(J)Z"⟩ : MethodName) (head1 (Jvm.Cond.code (⟨"com/example/gated_chorus/gatedchorus/limit/Kicks", "isBanned", "(J)Z"⟩ : MethodName) prog_17_method_3_code 3 (some .boolean) :: ws) ({ frames := 0, cells := 0, slots := 0, locals := 0 } : Room)) (fun a U => a = #[(.ref a1), (.long now)] ∧ Z.Warmed39 U.vm ∧ U.heap = h0) (fun _ _ _ _ _ => True) (fun _ U o U' => ∃ v L, o = .returned v ∧ Q_20o Z a1 now bu r h0 n0 v U'.heap L ∧ FrameEnd U o U' L ({ frames := 0, cells := 0, slots := 0, locals := 0 } : Room).cells ({ frames := 0, cells := 0, slots := 0, locals := 0 } : Room).slots) := by
  refine MetFree.of_bodySF (plainFor_of_name pn_com_example_gated_chorus_gatedchorus_limit_Kicks) hisR ?_
  intro p e s m args below meth c s₁ Bd hml0 hP hK
  obtain ⟨rfl, hZ, hh⟩ := hP
  have hx := Bd.exec
  have hby := Bd.bytes
  have hml : c.maxLocals = 3 := hml0
  have hown : s.vm.findClass "com/example/gated_chorus/gatedchorus/limit/Kicks" = some m.cls := findClass_of_methodNamed Bd.named
  have hnm := (name_of_methodNamed Bd.named Bd.method).1
  have X0 : Stand p l e ({ frames := 0, cells := 0, slots := 0, locals := 0 } : Room) s m #[(.ref a1), (.long now)] below meth c s₁ [] 0 0 := Stand.of_body Bd
  have e0 : s₁.heap = h0 := by rw [← hh, Bd.state]; rfl
  have N0 := Fr.nil n0
  have pw0 : ∀ t, Steps p.tables e below (s₁.setTop (mkF m 0 #[.val (.ref a1), .val (.long now), .second] [])) t → Steps p.tables e below (s₁.setTop (entryFrame m #[(.ref a1), (.long now)] 3)) t := fun t k => castTop (ef_20o m a1 now) k
  have K0 : Keep h0 h0 [] := Keep.refl h0 []
  obtain ⟨T89, X89, e89, st89⟩ := getF X0 hx hZ hown (host := "") (Or.inl (hw _ (List.mem_of_getElem? (i := 139) rfl))) Via.refl e0 F_bn (g := (mkF m 1 #[.val (.ref a1), .val (.long now), .second] [(.ref a1)])) rfl rfl (hb hby d20_1)
  obtain ⟨T90, X90, e90, st90⟩ := getF X89 hx hZ hown (host := "") (Or.inl (hw _ (List.mem_of_getElem? (i := 141) rfl))) Via.refl e89 F_bu (g := (mkF m 9 #[.val (.ref a1), .val (.long now), .second] [(.ref a1), (.long now)])) rfl rfl (hb hby d20_9)
  have pw91 : ∀ t, Steps p.tables e below (T90.setTop (mkF m 15 #[.val (.ref a1), .val (.long now), .second] [(.int (lcmpW (now - bu) (0 : Int64)))])) t → Steps p.tables e below (s₁.setTop (entryFrame m #[(.ref a1), (.long now)] 3)) t := by
    intro t k
    refine pw0 t ?_
    refine XS.aloadN X0.here hx rfl (hb hby d20_0) rfl rfl ?_
    show Steps p.tables e below (s₁.setTop (mkF m 1 #[.val (.ref a1), .val (.long now), .second] [(.ref a1)])) _
    refine st89 _ ?_
    show Steps p.tables e below (T89.setTop (mkF m 4 #[.val (.ref a1), .val (.long now), .second] [(.int (1 : Int32))])) _
    refine XS.ifNo X89.here hx rfl (hb hby d20_4) rfl ((if0 _ _).trans (feq (by decide : ¬ ((1 : Int32) = (0 : Int32)))).1) ?_
    show Steps p.tables e below (T89.setTop (mkF m 7 #[.val (.ref a1), .val (.long now), .second] [])) _
    refine XS.lloadN X89.here hx rfl (hb hby d20_7) rfl ?_
    show Steps p.tables e below (T89.setTop (mkF m 8 #[.val (.ref a1), .val (.long now), .second] [(.long now)])) _
    refine XS.aloadN X89.here hx rfl (hb hby d20_8) rfl rfl ?_
    show Steps p.tables e below (T89.setTop (mkF m 9 #[.val (.ref a1), .val (.long now), .second] [(.ref a1), (.long now)])) _
    refine st90 _ ?_
    show Steps p.tables e below (T90.setTop (mkF m 12 #[.val (.ref a1), .val (.long now), .second] [(.long bu), (.long now)])) _
    refine XS.lsub X90.here hx rfl (hb hby d20_12) rfl ?_
    show Steps p.tables e below (T90.setTop (mkF m 13 #[.val (.ref a1), .val (.long now), .second] [(.long (now - bu))])) _
    refine XS.lconst X90.here hx rfl (hb hby d20_13) ?_
    show Steps p.tables e below (T90.setTop (mkF m 14 #[.val (.ref a1), .val (.long now), .second] [(.long (0 : Int64)), (.long (now - bu))])) _
    refine XS.lcmp X90.here hx rfl (hb hby d20_14) rfl ?_
    show Steps p.tables e below (T90.setTop (mkF m 15 #[.val (.ref a1), .val (.long now), .second] [(.int (lcmpW (now - bu) (0 : Int64)))])) _
    exact k
  by_cases hc92 : (now - bu) < (0 : Int64)
  · skip
    obtain ⟨fs, hr, hrun, hended, hW, hsame⟩ := X90.leave (v := some (.int (1 : Int32))) (fun h => by rw [Bd.returns] at h; cases h)
    refine ⟨_, _, pw91 _ ?_, hrun, hended, _, _, rfl, ?_, ⟨_, rfl⟩, hW, hsame.mono (by decide) (by decide)⟩
    · skip
      refine XS.ifNo X90.here hx rfl (hb hby d20_15) rfl ((if0 _ _).trans (tlt ((lw_lt (now - bu) (0 : Int64)).2 hc92)).2.1) ?_
      show Steps p.tables e below (T90.setTop (mkF m 18 #[.val (.ref a1), .val (.long now), .second] [])) _
      refine XS.iconst X90.here hx rfl (hb hby d20_18) ?_
      show Steps p.tables e below (T90.setTop (mkF m 19 #[.val (.ref a1), .val (.long now), .second] [(.int (1 : Int32))])) _
      refine XS.goto X90.here hx rfl (pc0 := 19) (pc' := 23) rfl (hb hby d20_19) (by decide) (by decide) ?_
      show Steps p.tables e below (T90.setTop (mkF m 23 #[.val (.ref a1), .val (.long now), .second] [(.int (1 : Int32))])) _
      exact retN X90 hx (t := .boolean) Bd.returns (by simp) (hb hby d20_23) hr
    · show Q_20o Z a1 now bu r h0 n0 _ T90.heap _
      rw [e90]
      exact ⟨by rw [← hsp]; unfold own_ban; rw [if_pos hc92], N0, rfl⟩
  · skip
    obtain ⟨fs, hr, hrun, hended, hW, hsame⟩ := X90.leave (v := some (.int (0 : Int32))) (fun h => by rw [Bd.returns] at h; cases h)
    refine ⟨_, _, pw91 _ ?_, hrun, hended, _, _, rfl, ?_, ⟨_, rfl⟩, hW, hsame.mono (by decide) (by decide)⟩
    · skip
      refine XS.ifYes X90.here hx rfl (pc0 := 15) (pc' := 22) rfl (hb hby d20_15) rfl ((if0 _ _).trans (flt (mt (lw_lt (now - bu) (0 : Int64)).1 hc92)).2.1) (by decide) (by decide) ?_
      show Steps p.tables e below (T90.setTop (mkF m 22 #[.val (.ref a1), .val (.long now), .second] [])) _
      refine XS.iconst X90.here hx rfl (hb hby d20_22) ?_
      show Steps p.tables e below (T90.setTop (mkF m 23 #[.val (.ref a1), .val (.long now), .second] [(.int (0 : Int32))])) _
      exact retN X90 hx (t := .boolean) Bd.returns (by simp) (hb hby d20_23) hr
    · show Q_20o Z a1 now bu r h0 n0 _ T90.heap _
      rw [e90]
      exact ⟨by rw [← hsp]; unfold own_ban; rw [if_neg hc92], N0, rfl⟩
theorem ef_0 (m : MethodId) (x0 : Int64) (x1 : Int64) (x2 : Int64) (x3 : Int32) (x4 : Int32) : entryFrame m #[(.long x0), (.long x1), (.long x2), (.int x3), (.int x4)] maxLocals = mkF m 0 #[.val (.long x0), .second, .val (.long x1), .second, .val (.long x2), .second, .val (.int x3), .val (.int x4), .unset, .unset, .unset, .unset, .unset, .unset, .unset, .unset, .unset, .unset, .unset, .unset, .unset, .unset, .unset] [] := by first | (simp [entryFrame, mkF, argsToLocals, Value.category, maxLocals]; done) | rfl
theorem pn_com_example_gated_chorus_gatedchorus_limit_KicksIsBannedPinLaw : plainName "com/example/gated_chorus/gatedchorus/limit/KicksIsBannedPinLaw" = true := by first | (simp [plainName, overriddenIn]; done) | decide +kernel
def Q_0 (Z : State) (x0 : Int64) (x1 : Int64) (x2 : Int64) (x3 : Int32) (x4 : Int32) (F_ : Int32) (tu : Addr) (cl : Cell) (ca : Addr) (h0 : Heap) (n0 : Nat) (v : Option Value) (h : Heap) (L : List Loc) : Prop := v = some (.int 1) ∧ Fr n0 L
set_option maxRecDepth 65536 in
set_option maxHeartbeats 40000000 in
theorem rm_0 (l : Launch) (Z : State) (a0 : Array Value) (hw : ∀ d ∈ tables_1, d.before a0 Z = true) (ws : List Jvm.Cond) (x0 : Int64) (x1 : Int64) (x2 : Int64) (x3 : Int32) (x4 : Int32) (F_ : Int32) (tu : Addr) (cl : Cell) (ca : Addr) (h0 : Heap) (n0 : Nat) (Z0 : n0 ≤ h0.size) (hF : own_max 1 (x3 &&& 2147483647) = F_) (S_ms : Sta Z h0 "java/util/concurrent/TimeUnit" "MILLISECONDS" "Ljava/util/concurrent/TimeUnit;" (.ref tu)) (E_tu : Exa Z h0 tu "java/util/concurrent/TimeUnit") (F_s : Fld Z h0 tu "java/util/concurrent/TimeUnit" "scale" "J" (.long (1000000 : Int64))) (F_m : Fld Z h0 tu "java/util/concurrent/TimeUnit" "maxNanos" "J" (.long (9223372036854 : Int64))) (S_c : Sta Z h0 "java/lang/Long$LongCache" "cache" "[Ljava/lang/Long;" (.ref ca)) (Ar_c : Arr Z h0 ca cl (.object "java/lang/Long")) (hsz : cl.slots.size = 256) (hcache : ∀ j : Int32, ¬ (j < 0 ∨ cl.slots.size ≤ j.toNatClampNeg) → ∃ b, cl.slots[j.toNatClampNeg]? = some (.ref b) ∧ Exa Z h0 b "java/lang/Long") (hmd : (x4 &&& (3 : Int32)) = (0 : Int32) ∨ (x4 &&& (3 : Int32)) = (1 : Int32) ∨ (x4 &&& (3 : Int32)) = (2 : Int32) ∨ (x4 &&& (3 : Int32)) = (3 : Int32)) (hel : 0 ≤ ((x2 &&& (9223372036854775807 : Int64))).toInt) (hfn0 : 0 ≤ (((F_.toInt64) * (1000000 : Int64))).toInt) (hfn1 : (((F_.toInt64) * (1000000 : Int64))).toInt ≤ 9000000000000000) :
    MetFree l x (head1 (Jvm.Cond.code x code maxLocals ret :: ws) room_1) (fun a U => a = #[(.long x0), (.long x1), (.long x2), (.int x3), (.int x4)] ∧ Z.Warmed39 U.vm ∧ U.heap = h0) (fun _ _ _ _ _ => True) (fun _ U o U' => ∃ v L, o = .returned v ∧ Q_0 Z x0 x1 x2 x3 x4 F_ tu cl ca h0 n0 v U'.heap L ∧ FrameEnd U o U' L room_1.cells room_1.slots) := by
  refine MetFree.of_bodySF (plainFor_of_name pn_com_example_gated_chorus_gatedchorus_limit_KicksIsBannedPinLaw) hisR ?_
  intro p e s m args below meth c s₁ Bd hml0 hP hK
  obtain ⟨rfl, hZ, hh⟩ := hP
  have hx := Bd.exec
  have hby := Bd.bytes
  have hml : c.maxLocals = 23 := hml0
  have hown : s.vm.findClass "com/example/gated_chorus/gatedchorus/limit/KicksIsBannedPinLaw" = some m.cls := findClass_of_methodNamed Bd.named
  have hnm := (name_of_methodNamed Bd.named Bd.method).1
  have X0 : Stand p l e room_1 s m #[(.long x0), (.long x1), (.long x2), (.int x3), (.int x4)] below meth c s₁ [] 0 0 := Stand.of_body Bd
  have e0 : s₁.heap = h0 := by rw [← hh, Bd.state]; rfl
  have N0 := Fr.nil n0
  have pw0 : ∀ t, Steps p.tables e below (s₁.setTop (mkF m 0 #[.val (.long x0), .second, .val (.long x1), .second, .val (.long x2), .second, .val (.int x3), .val (.int x4), .unset, .unset, .unset, .unset, .unset, .unset, .unset, .unset, .unset, .unset, .unset, .unset, .unset, .unset, .unset] [])) t → Steps p.tables e below (s₁.setTop (entryFrame m #[(.long x0), (.long x1), (.long x2), (.int x3), (.int x4)] maxLocals)) t := fun t k => castTop (ef_0 m x0 x1 x2 x3 x4) k
  have K0 : Keep h0 h0 [] := Keep.refl h0 []
  obtain ⟨_, _, ⟨T93, L93, k93, n93⟩, -, X93, ⟨Lc93, hQ93, l93, y93, z93⟩, st93⟩ := Jvm.LawKit.callS X0 hx (y := (⟨"java/lang/Math", "max", "(II)I"⟩ : MethodName)) hown (mvT hZ (hw _ (List.mem_of_getElem? (i := 1) rfl))) (mvT hZ (hw _ (List.mem_of_getElem? (i := 2) rfl))) (mvT hZ (hw _ (List.mem_of_getElem? (i := 3) rfl))) (mvT hZ (hw _ (List.mem_of_getElem? (i := 4) rfl))) (by decide) (backOf (W := 0) (rm_1 l Z a0 hw [] (1 : Int32) (x3 &&& (2147483647 : Int32)) F_ h0 n0 Z0 hF) hZ (hw _ (List.mem_of_getElem? (i := 4) rfl)) (hw _ (List.mem_of_getElem? (i := 3) rfl)) (by decide) (by decide)) (g := (mkF m 12 #[.val (.long x0), .second, .val (.long x1), .second, .val (.long x2), .second, .val (.int x3), .val (.int x4), .val (.int (x4 &&& (3 : Int32))), .unset, .unset, .unset, .unset, .unset, .unset, .unset, .unset, .unset, .unset, .unset, .unset, .unset, .unset] [(.int (x3 &&& (2147483647 : Int32))), (.int (1 : Int32))])) rfl (by rw [hml]; rfl) (argsL := [(.int (1 : Int32)), (.int (x3 &&& (2147483647 : Int32)))]) (rest := []) (lenOf pd__II_I rfl) rfl (by show 2 * 0 + _ ≤ _; exact Nat.le_of_eq rfl) (hb hby at_12) (fun _ _ => ⟨rfl, e0, (by decide : 0 + 0 ≤ _), (by decide : 0 + 0 ≤ _)⟩)
  dsimp only [Pt.U, Pt.locs, Pt.cells, Pt.slots] at X93 l93 y93 z93 st93 hQ93
  subst l93 y93 z93
  obtain ⟨rfl, N93q, e93q⟩ := hQ93
  have N93 := Fr.app N0 N93q
  have pw94 : ∀ t, Steps p.tables e below (T93.setTop (mkF m 20 #[.val (.long x0), .second, .val (.long x1), .second, .val (.long x2), .second, .val (.int x3), .val (.int x4), .val (.int (x4 &&& (3 : Int32))), .val (.int F_), .unset, .unset, .unset, .unset, .unset, .unset, .unset, .unset, .unset, .unset, .unset, .unset, .unset] [(.int (2 : Int32)), (.int (x4 &&& (3 : Int32)))])) t → Steps p.tables e below (s₁.setTop (entryFrame m #[(.long x0), (.long x1), (.long x2), (.int x3), (.int x4)] maxLocals)) t := by
    intro t k
    refine pw0 t ?_
    refine XS.iload X0.here hx rfl (hb hby at_0) rfl ?_
    show Steps p.tables e below (s₁.setTop (mkF m 2 #[.val (.long x0), .second, .val (.long x1), .second, .val (.long x2), .second, .val (.int x3), .val (.int x4), .unset, .unset, .unset, .unset, .unset, .unset, .unset, .unset, .unset, .unset, .unset, .unset, .unset, .unset, .unset] [(.int x4)])) _
    refine XS.iconst X0.here hx rfl (hb hby at_2) ?_
    show Steps p.tables e below (s₁.setTop (mkF m 3 #[.val (.long x0), .second, .val (.long x1), .second, .val (.long x2), .second, .val (.int x3), .val (.int x4), .unset, .unset, .unset, .unset, .unset, .unset, .unset, .unset, .unset, .unset, .unset, .unset, .unset, .unset, .unset] [(.int (3 : Int32)), (.int x4)])) _
    refine XS.iand X0.here hx rfl (hb hby at_3) rfl ?_
    show Steps p.tables e below (s₁.setTop (mkF m 4 #[.val (.long x0), .second, .val (.long x1), .second, .val (.long x2), .second, .val (.int x3), .val (.int x4), .unset, .unset, .unset, .unset, .unset, .unset, .unset, .unset, .unset, .unset, .unset, .unset, .unset, .unset, .unset] [(.int (x4 &&& (3 : Int32)))])) _
    refine XS.istore X0.here hx rfl (hb hby at_4) rfl (l' := #[.val (.long x0), .second, .val (.long x1), .second, .val (.long x2), .second, .val (.int x3), .val (.int x4), .val (.int (x4 &&& (3 : Int32))), .unset, .unset, .unset, .unset, .unset, .unset, .unset, .unset, .unset, .unset, .unset, .unset, .unset, .unset]) rfl ?_
    show Steps p.tables e below (s₁.setTop (mkF m 6 #[.val (.long x0), .second, .val (.long x1), .second, .val (.long x2), .second, .val (.int x3), .val (.int x4), .val (.int (x4 &&& (3 : Int32))), .unset, .unset, .unset, .unset, .unset, .unset, .unset, .unset, .unset, .unset, .unset, .unset, .unset, .unset] [])) _
    refine XS.iconst X0.here hx rfl (hb hby at_6) ?_
    show Steps p.tables e below (s₁.setTop (mkF m 7 #[.val (.long x0), .second, .val (.long x1), .second, .val (.long x2), .second, .val (.int x3), .val (.int x4), .val (.int (x4 &&& (3 : Int32))), .unset, .unset, .unset, .unset, .unset, .unset, .unset, .unset, .unset, .unset, .unset, .unset, .unset, .unset] [(.int (1 : Int32))])) _
    refine XS.iload X0.here hx rfl (hb hby at_7) rfl ?_
    show Steps p.tables e below (s₁.setTop (mkF m 9 #[.val (.long x0), .second, .val (.long x1), .second, .val (.long x2), .second, .val (.int x3), .val (.int x4), .val (.int (x4 &&& (3 : Int32))), .unset, .unset, .unset, .unset, .unset, .unset, .unset, .unset, .unset, .unset, .unset, .unset, .unset, .unset] [(.int x3), (.int (1 : Int32))])) _
    refine X0.ldcInt hx hown (mvT hZ (hw _ (List.mem_of_getElem? (i := 0) rfl))) (g := (mkF m 9 #[.val (.long x0), .second, .val (.long x1), .second, .val (.long x2), .second, .val (.int x3), .val (.int x4), .val (.int (x4 &&& (3 : Int32))), .unset, .unset, .unset, .unset, .unset, .unset, .unset, .unset, .unset, .unset, .unset, .unset, .unset, .unset] [(.int x3), (.int (1 : Int32))])) rfl (hb hby at_9) _ ?_
    show Steps p.tables e below (s₁.setTop (mkF m 11 #[.val (.long x0), .second, .val (.long x1), .second, .val (.long x2), .second, .val (.int x3), .val (.int x4), .val (.int (x4 &&& (3 : Int32))), .unset, .unset, .unset, .unset, .unset, .unset, .unset, .unset, .unset, .unset, .unset, .unset, .unset, .unset] [(.int (2147483647 : Int32)), (.int x3), (.int (1 : Int32))])) _
    refine XS.iand X0.here hx rfl (hb hby at_11) rfl ?_
    show Steps p.tables e below (s₁.setTop (mkF m 12 #[.val (.long x0), .second, .val (.long x1), .second, .val (.long x2), .second, .val (.int x3), .val (.int x4), .val (.int (x4 &&& (3 : Int32))), .unset, .unset, .unset, .unset, .unset, .unset, .unset, .unset, .unset, .unset, .unset, .unset, .unset, .unset] [(.int (x3 &&& (2147483647 : Int32))), (.int (1 : Int32))])) _
    refine st93 _ ?_
    show Steps p.tables e below (T93.setTop (mkF m 15 #[.val (.long x0), .second, .val (.long x1), .second, .val (.long x2), .second, .val (.int x3), .val (.int x4), .val (.int (x4 &&& (3 : Int32))), .unset, .unset, .unset, .unset, .unset, .unset, .unset, .unset, .unset, .unset, .unset, .unset, .unset, .unset] [(.int F_)])) _
    refine XS.istore X93.here hx rfl (hb hby at_15) rfl (l' := #[.val (.long x0), .second, .val (.long x1), .second, .val (.long x2), .second, .val (.int x3), .val (.int x4), .val (.int (x4 &&& (3 : Int32))), .val (.int F_), .unset, .unset, .unset, .unset, .unset, .unset, .unset, .unset, .unset, .unset, .unset, .unset, .unset]) rfl ?_
    show Steps p.tables e below (T93.setTop (mkF m 17 #[.val (.long x0), .second, .val (.long x1), .second, .val (.long x2), .second, .val (.int x3), .val (.int x4), .val (.int (x4 &&& (3 : Int32))), .val (.int F_), .unset, .unset, .unset, .unset, .unset, .unset, .unset, .unset, .unset, .unset, .unset, .unset, .unset] [])) _
    refine XS.iload X93.here hx rfl (hb hby at_17) rfl ?_
    show Steps p.tables e below (T93.setTop (mkF m 19 #[.val (.long x0), .second, .val (.long x1), .second, .val (.long x2), .second, .val (.int x3), .val (.int x4), .val (.int (x4 &&& (3 : Int32))), .val (.int F_), .unset, .unset, .unset, .unset, .unset, .unset, .unset, .unset, .unset, .unset, .unset, .unset, .unset] [(.int (x4 &&& (3 : Int32)))])) _
    refine XS.iconst X93.here hx rfl (hb hby at_19) ?_
    show Steps p.tables e below (T93.setTop (mkF m 20 #[.val (.long x0), .second, .val (.long x1), .second, .val (.long x2), .second, .val (.int x3), .val (.int x4), .val (.int (x4 &&& (3 : Int32))), .val (.int F_), .unset, .unset, .unset, .unset, .unset, .unset, .unset, .unset, .unset, .unset, .unset, .unset, .unset] [(.int (2 : Int32)), (.int (x4 &&& (3 : Int32)))])) _
    exact k
  by_cases hc95 : (x4 &&& (3 : Int32)) = (2 : Int32)
  · skip
    obtain ⟨T96, h96, X96, e96, E96, A96, D96, -, st96⟩ := newO X93 hx hZ hown (hw _ (List.mem_of_getElem? (i := 5) rfl)) (hw _ (List.mem_of_getElem? (i := 6) rfl)) (hw _ (List.mem_of_getElem? (i := 7) rfl)) e93q (g := (mkF m 30 #[.val (.long x0), .second, .val (.long x1), .second, .val (.long x2), .second, .val (.int x3), .val (.int x4), .val (.int (x4 &&& (3 : Int32))), .val (.int F_), .val (.int (2 : Int32)), .unset, .unset, .unset, .unset, .unset, .unset, .unset, .unset, .unset, .unset, .unset, .unset] [])) rfl (hb hby at_30) (by decide) (by decide)
    obtain ⟨b96, g96⟩ : ∃ z, z = h0.size := ⟨_, rfl⟩
    rw [← g96] at A96 D96 st96
    have g_b96 : n0 ≤ b96 := Nat.le_trans Z0 (Nat.le_of_eq g96.symm)
    have sz_b96 : h0.size ≤ b96 := Nat.le_trans K0.1 (Nat.le_of_eq g96.symm)
    have F_times_b96 : Fld Z h96 b96 "com/example/gated_chorus/gatedchorus/limit/Kicks" "times" "Ljava/util/Deque;" .null := D96 (Or.inr (hw _ (List.mem_of_getElem? (i := 45) rfl))) (ty := (.object "java/util/Deque")) (by decide)
    have F_kicks_b96 : Fld Z h96 b96 "com/example/gated_chorus/gatedchorus/limit/Kicks" "kicks" "I" (.int (0 : Int32)) := D96 (Or.inr (hw _ (List.mem_of_getElem? (i := 52) rfl))) (ty := .int) (by decide)
    have F_withinNanos_b96 : Fld Z h96 b96 "com/example/gated_chorus/gatedchorus/limit/Kicks" "withinNanos" "J" (.long (0 : Int64)) := D96 (Or.inr (hw _ (List.mem_of_getElem? (i := 70) rfl))) (ty := .long) (by decide)
    have F_forNanos_b96 : Fld Z h96 b96 "com/example/gated_chorus/gatedchorus/limit/Kicks" "forNanos" "J" (.long (0 : Int64)) := D96 (Or.inr (hw _ (List.mem_of_getElem? (i := 77) rfl))) (ty := .long) (by decide)
    have F_banned_b96 : Fld Z h96 b96 "com/example/gated_chorus/gatedchorus/limit/Kicks" "banned" "Z" (.int (0 : Int32)) := D96 (Or.inl (hw _ (List.mem_of_getElem? (i := 140) rfl))) (ty := .boolean) (by decide)
    have F_bannedUntil_b96 : Fld Z h96 b96 "com/example/gated_chorus/gatedchorus/limit/Kicks" "bannedUntil" "J" (.long (0 : Int64)) := D96 (Or.inl (hw _ (List.mem_of_getElem? (i := 142) rfl))) (ty := .long) (by decide)
    have K96 : Keep h0 h96 [] := K0.ext E96
    have Z96 : n0 ≤ h96.size := (Nat.le_trans Z0 E96.1)
    obtain ⟨T97, h97, X97, e97, E97, A97, D97, -, st97⟩ := newO X96 hx hZ hown (hw _ (List.mem_of_getElem? (i := 8) rfl)) (hw _ (List.mem_of_getElem? (i := 9) rfl)) (hw _ (List.mem_of_getElem? (i := 10) rfl)) e96 (g := (mkF m 34 #[.val (.long x0), .second, .val (.long x1), .second, .val (.long x2), .second, .val (.int x3), .val (.int x4), .val (.int (x4 &&& (3 : Int32))), .val (.int F_), .val (.int (2 : Int32)), .unset, .unset, .unset, .unset, .unset, .unset, .unset, .unset, .unset, .unset, .unset, .unset] [(.ref b96), (.ref b96)])) rfl (hb hby at_34) (by decide) (by decide)
    obtain ⟨b97, g97⟩ : ∃ z, z = h96.size := ⟨_, rfl⟩
    rw [← g97] at A97 D97 st97
    have g_b97 : n0 ≤ b97 := Nat.le_trans Z96 (Nat.le_of_eq g97.symm)
    have sz_b97 : h0.size ≤ b97 := Nat.le_trans K96.1 (Nat.le_of_eq g97.symm)
    have F_kicks_b97 : Fld Z h97 b97 "com/example/gated_chorus/gatedchorus/limit/Ban" "kicks" "I" (.int (0 : Int32)) := D97 (Or.inr (hw _ (List.mem_of_getElem? (i := 18) rfl))) (ty := .int) (by decide)
    have F_withinMs_b97 : Fld Z h97 b97 "com/example/gated_chorus/gatedchorus/limit/Ban" "withinMs" "I" (.int (0 : Int32)) := D97 (Or.inr (hw _ (List.mem_of_getElem? (i := 20) rfl))) (ty := .int) (by decide)
    have F_forMs_b97 : Fld Z h97 b97 "com/example/gated_chorus/gatedchorus/limit/Ban" "forMs" "I" (.int (0 : Int32)) := D97 (Or.inr (hw _ (List.mem_of_getElem? (i := 22) rfl))) (ty := .int) (by decide)
    have K97 : Keep h0 h97 [] := K96.ext E97
    have Z97 : n0 ≤ h97.size := (Nat.le_trans Z96 E97.1)
    obtain ⟨_, _, ⟨T98, L98, k98, n98⟩, -, X98, ⟨Lc98, hQ98, l98, y98, z98⟩, st98⟩ := X97.specialBack hx (y := (⟨"com/example/gated_chorus/gatedchorus/limit/Ban", "<init>", "(III)V"⟩ : MethodName)) rfl hown (mvT hZ (hw _ (List.mem_of_getElem? (i := 11) rfl))) (mvT hZ (hw _ (List.mem_of_getElem? (i := 12) rfl))) (mvT hZ (hw _ (List.mem_of_getElem? (i := 13) rfl))) (by decide) (backOf (W := 3) (rm_2 l Z a0 hw [] b97 (2 : Int32) (1 : Int32) F_ h97 n0 Z97 A97 F_kicks_b97 F_withinMs_b97 F_forMs_b97 g_b97) hZ (hw _ (List.mem_of_getElem? (i := 13) rfl)) (hw _ (List.mem_of_getElem? (i := 10) rfl)) (by decide) (by decide)) (g := (mkF m 43 #[.val (.long x0), .second, .val (.long x1), .second, .val (.long x2), .second, .val (.int x3), .val (.int x4), .val (.int (x4 &&& (3 : Int32))), .val (.int F_), .val (.int (2 : Int32)), .unset, .unset, .unset, .unset, .unset, .unset, .unset, .unset, .unset, .unset, .unset, .unset] [(.int F_), (.int (1 : Int32)), (.int (2 : Int32)), (.ref b97), (.ref b97), (.ref b96), (.ref b96)])) rfl (by rw [hml]; rfl) (Steps.refl _) (a := b97) (argsL := [(.int (2 : Int32)), (.int (1 : Int32)), (.int F_)]) (rest := [(.ref b97), (.ref b96), (.ref b96)]) (lenOf pd__III_V rfl) rfl (by show 2 * 0 + _ ≤ _; exact Nat.le_of_eq rfl) (hb hby at_43) (fun _ _ => ⟨rfl, e97, (by decide : 2 + 0 ≤ _), (by decide : 9 + 0 ≤ _)⟩)
    dsimp only [Pt.U, Pt.locs, Pt.cells, Pt.slots] at X98 l98 y98 z98 st98 hQ98
    subst l98 y98 z98
    obtain ⟨rfl, N98q, K98q, E98q, Fk98q, Fw98q, Ff98q⟩ := hQ98
    have N98 := Fr.app N93 N98q
    have K98 : Keep h0 T98.heap [] := K97.trans K98q (allS (P := fun x => x ∈ [] ∨ h0.size ≤ x) (Or.inr sz_b97) all0)
    have Z98 : n0 ≤ T98.heap.size := (Nat.le_trans Z97 K98q.1)
    obtain ⟨_, _, ⟨T99, L99, k99, n99⟩, -, X99, ⟨Lc99, hQ99, l99, y99, z99⟩, st99⟩ := X98.specialBack hx (y := (⟨"com/example/gated_chorus/gatedchorus/limit/Kicks", "<init>", "(Lcom/example/gated_chorus/gatedchorus/limit/Ban;)V"⟩ : MethodName)) rfl hown (mvT hZ (hw _ (List.mem_of_getElem? (i := 23) rfl))) (mvT hZ (hw _ (List.mem_of_getElem? (i := 24) rfl))) (mvT hZ (hw _ (List.mem_of_getElem? (i := 25) rfl))) (by decide) (backOf (W := 1) (rm_4 l Z a0 hw [] b96 b97 (2 : Int32) (1 : Int32) F_ tu T98.heap n0 Z98 ((A96.ext E97).keep K98q) ((F_kicks_b96.ext E97).keep K98q (ninS (Nat.ne_of_lt (Nat.lt_of_lt_of_le A96.lt (Nat.le_of_eq g97.symm))) nin0)) ((F_withinNanos_b96.ext E97).keep K98q (ninS (Nat.ne_of_lt (Nat.lt_of_lt_of_le A96.lt (Nat.le_of_eq g97.symm))) nin0)) ((F_forNanos_b96.ext E97).keep K98q (ninS (Nat.ne_of_lt (Nat.lt_of_lt_of_le A96.lt (Nat.le_of_eq g97.symm))) nin0)) ((F_times_b96.ext E97).keep K98q (ninS (Nat.ne_of_lt (Nat.lt_of_lt_of_le A96.lt (Nat.le_of_eq g97.symm))) nin0)) ((F_banned_b96.ext E97).keep K98q (ninS (Nat.ne_of_lt (Nat.lt_of_lt_of_le A96.lt (Nat.le_of_eq g97.symm))) nin0)) ((F_bannedUntil_b96.ext E97).keep K98q (ninS (Nat.ne_of_lt (Nat.lt_of_lt_of_le A96.lt (Nat.le_of_eq g97.symm))) nin0)) g_b96 E98q Fk98q Fw98q Ff98q (own_staKeep S_ms K98 ns0) (E_tu.keep K98) (F_s.keep K98 nin0) (F_m.keep K98 nin0)) hZ (hw _ (List.mem_of_getElem? (i := 25) rfl)) (hw _ (List.mem_of_getElem? (i := 7) rfl)) (by decide) (by decide)) (g := (mkF m 46 #[.val (.long x0), .second, .val (.long x1), .second, .val (.long x2), .second, .val (.int x3), .val (.int x4), .val (.int (x4 &&& (3 : Int32))), .val (.int F_), .val (.int (2 : Int32)), .unset, .unset, .unset, .unset, .unset, .unset, .unset, .unset, .unset, .unset, .unset, .unset] [(.ref b97), (.ref b96), (.ref b96)])) rfl (by rw [hml]; rfl) (Steps.refl _) (a := b96) (argsL := [(.ref b97)]) (rest := [(.ref b96)]) (lenOf pd__Lcom_example_gated_chorus_gatedchorus_limit_Ban__V rfl) rfl (by show 2 * 0 + _ ≤ _; exact Nat.le_of_eq rfl) (hb hby at_46) (fun _ _ => ⟨rfl, rfl, (by decide : 2 + 2 ≤ _), (by decide : 9 + 20 ≤ _)⟩)
    dsimp only [Pt.U, Pt.locs, Pt.cells, Pt.slots] at X99 l99 y99 z99 st99 hQ99
    subst l99 y99 z99
    obtain ⟨rfl, N99q, K99q, E99q, F099q, F199q, F299q, F399q, d99, ea99, kk99, hd99, he99, hde99, Ft99x, Ed99q, Fe99q, Fh99q, Ft99q, Va99q, Ov99q⟩ := hQ99
    have N99 := Fr.app N98 N99q
    have K99 : Keep h0 T99.heap [] := K98.trans K99q (allS (P := fun x => x ∈ [] ∨ h0.size ≤ x) (Or.inr sz_b96) all0)
    have Z99 : n0 ≤ T99.heap.size := (Nat.le_trans Z98 K99q.1)
    have had : b96 ≠ d99 := Nat.ne_of_lt (Nat.lt_of_lt_of_le (((A96.ext E97).keep K98q)).lt hd99)
    have hae : b96 ≠ ea99 := Nat.ne_of_lt (Nat.lt_of_lt_of_le (((A96.ext E97).keep K98q)).lt he99)
    have g_d99 : n0 ≤ d99 := Nat.le_trans Z98 hd99
    have sz_d99 : h0.size ≤ d99 := Nat.le_trans K98.1 hd99
    have g_ea99 : n0 ≤ ea99 := Nat.le_trans Z98 he99
    have sz_ea99 : h0.size ≤ ea99 := Nat.le_trans K98.1 he99
    have hca100 : ∀ j : Int32, ¬ (j < 0 ∨ cl.slots.size ≤ j.toNatClampNeg) → ∃ b, cl.slots[j.toNatClampNeg]? = some (.ref b) ∧ Exa Z T99.heap b "java/lang/Long" := fun j hj => by obtain ⟨b, q1, q2⟩ := hcache j hj; exact ⟨b, q1, q2.keep K99⟩
    obtain ⟨cq101, kq101, q101a, q101b, q101c⟩ := isOf hZ rfl E99q
    obtain ⟨_, _, ⟨T101, L101, k101, n101⟩, -, X101, ⟨Lc101, hQ101, l101, y101, z101⟩, st101⟩ := X99.virtualBack hx (y := (⟨"com/example/gated_chorus/gatedchorus/limit/Kicks", "kick", "(J)Z"⟩ : MethodName)) (z := (⟨"com/example/gated_chorus/gatedchorus/limit/Kicks", "kick", "(J)Z"⟩ : MethodName)) hown (mvT hZ (hw _ (List.mem_of_getElem? (i := 79) rfl))) (mvT hZ (hw _ (List.mem_of_getElem? (i := 80) rfl))) (notFace_of_selects (args := #[]) (mvT hZ (hw _ (List.mem_of_getElem? (i := 82) rfl)))) (mvT hZ (hw _ (List.mem_of_getElem? (i := 82) rfl))) (mvT hZ (hw _ (List.mem_of_getElem? (i := 81) rfl))) (by decide) (backOf (W := 0) (rm_11b l Z a0 hw [] b96 x0 ((F_.toInt64) * (1000000 : Int64)) (0 : Int32) (0 : Int64) d99 ea99 kk99 cl ca T99.heap n0 Z99 E99q F099q F199q F299q F399q Ft99x Ed99q Fe99q Fh99q Ft99q Va99q Ov99q g_b96 g_d99 g_ea99 hde99 had hae (own_staKeep S_c K99 ns0) (own_arrKeep Ar_c K99) hsz hca100) hZ (hw _ (List.mem_of_getElem? (i := 83) rfl)) (hw _ (List.mem_of_getElem? (i := 7) rfl)) (by decide) (by decide)) q101a q101c (g := (mkF m 90 #[.val (.long x0), .second, .val (.long x1), .second, .val (.long x2), .second, .val (.int x3), .val (.int x4), .val (.int (x4 &&& (3 : Int32))), .val (.int F_), .val (.int (2 : Int32)), .val (.ref b96), .val (.long (x1 &&& (9223372036854775807 : Int64))), .second, .val (.long (x2 &&& (9223372036854775807 : Int64))), .second, .val (.long x0), .second, .unset, .unset, .unset, .unset, .unset] [(.long x0), (.ref b96)])) rfl (by rw [hml]; rfl) (Steps.refl _) (argsL := [(.long x0)]) (rest := []) (lenOf pd__J_Z rfl) rfl (by show 2 * 0 + _ ≤ _; exact Nat.le_of_eq rfl) (hb hby at_90) (fun _ _ => ⟨rfl, rfl, (by decide : 4 + 1 ≤ _), (by decide : 29 + 1 ≤ _)⟩)
    dsimp only [Pt.U, Pt.locs, Pt.cells, Pt.slots] at X101 l101 y101 z101 st101 hQ101
    subst l101 y101 z101
    obtain ⟨rfl, N101q, K101q, E101q, F0101q, F1101q, F2101q, F3101q⟩ := hQ101
    have N101 := Fr.app N99 N101q
    have K101 : Keep h0 T101.heap [] := K99.trans K101q (allS (P := fun x => x ∈ [] ∨ h0.size ≤ x) (Or.inr sz_b96) (allS (P := fun x => x ∈ [] ∨ h0.size ≤ x) (Or.inr sz_d99) (allS (P := fun x => x ∈ [] ∨ h0.size ≤ x) (Or.inr sz_ea99) all0)))
    have Z101 : n0 ≤ T101.heap.size := (Nat.le_trans Z99 K101q.1)
    obtain ⟨cq102, kq102, q102a, q102b, q102c⟩ := isOf hZ rfl E101q
    obtain ⟨_, _, ⟨T102, L102, k102, n102⟩, -, X102, ⟨Lc102, hQ102, l102, y102, z102⟩, st102⟩ := X101.virtualBack hx (y := (⟨"com/example/gated_chorus/gatedchorus/limit/Kicks", "isBanned", "(J)Z"⟩ : MethodName)) (z := (⟨"com/example/gated_chorus/gatedchorus/limit/Kicks", "isBanned", "(J)Z"⟩ : MethodName)) hown (mvT hZ (hw _ (List.mem_of_getElem? (i := 144) rfl))) (mvT hZ (hw _ (List.mem_of_getElem? (i := 145) rfl))) (notFace_of_selects (args := #[]) (mvT hZ (hw _ (List.mem_of_getElem? (i := 147) rfl)))) (mvT hZ (hw _ (List.mem_of_getElem? (i := 147) rfl))) (mvT hZ (hw _ (List.mem_of_getElem? (i := 146) rfl))) (by decide) (backOf (W := 0) (rm_20z l Z a0 hw [] b96 (x0 + (x2 &&& (9223372036854775807 : Int64))) (0 : Int64) T101.heap n0 Z101 F2101q F3101q) hZ (hw _ (List.mem_of_getElem? (i := 148) rfl)) (hw _ (List.mem_of_getElem? (i := 7) rfl)) (by decide) (by decide)) q102a q102c (g := (mkF m 157 #[.val (.long x0), .second, .val (.long x1), .second, .val (.long x2), .second, .val (.int x3), .val (.int x4), .val (.int (x4 &&& (3 : Int32))), .val (.int F_), .val (.int (2 : Int32)), .val (.ref b96), .val (.long (x1 &&& (9223372036854775807 : Int64))), .second, .val (.long (x2 &&& (9223372036854775807 : Int64))), .second, .val (.long x0), .second, .val (.long (x0 + (x2 &&& (9223372036854775807 : Int64)))), .second, .val (.long ((F_.toInt64) * (1000000 : Int64))), .second, .val (.int (0 : Int32))] [(.long (x0 + (x2 &&& (9223372036854775807 : Int64)))), (.ref b96)])) rfl (by rw [hml]; rfl) (Steps.refl _) (argsL := [(.long (x0 + (x2 &&& (9223372036854775807 : Int64))))]) (rest := []) (lenOf pd__J_Z rfl) rfl (by show 2 * 0 + _ ≤ _; exact Nat.le_of_eq rfl) (hb hby at_157) (fun _ _ => ⟨rfl, rfl, (by decide : 5 + 0 ≤ _), (by decide : 30 + 0 ≤ _)⟩)
    dsimp only [Pt.U, Pt.locs, Pt.cells, Pt.slots] at X102 l102 y102 z102 st102 hQ102
    subst l102 y102 z102
    obtain ⟨rfl, N102q, e102q⟩ := hQ102
    have N102 := Fr.app N101 N102q
    obtain ⟨fs, hr, hrun, hended, hW, hsame⟩ := X102.leave (v := some (.int (1 : Int32))) (fun h => by rw [Bd.returns] at h; cases h)
    refine ⟨_, _, pw94 _ ?_, hrun, hended, _, _, rfl, ?_, ⟨_, rfl⟩, hW, hsame.mono (by decide) (by decide)⟩
    · skip
      refine XS.icmpNo X93.here hx rfl (hb hby at_20) rfl (teq hc95).2 ?_
      show Steps p.tables e below (T93.setTop (mkF m 23 #[.val (.long x0), .second, .val (.long x1), .second, .val (.long x2), .second, .val (.int x3), .val (.int x4), .val (.int (x4 &&& (3 : Int32))), .val (.int F_), .unset, .unset, .unset, .unset, .unset, .unset, .unset, .unset, .unset, .unset, .unset, .unset, .unset] [])) _
      refine XS.iconst X93.here hx rfl (hb hby at_23) ?_
      show Steps p.tables e below (T93.setTop (mkF m 24 #[.val (.long x0), .second, .val (.long x1), .second, .val (.long x2), .second, .val (.int x3), .val (.int x4), .val (.int (x4 &&& (3 : Int32))), .val (.int F_), .unset, .unset, .unset, .unset, .unset, .unset, .unset, .unset, .unset, .unset, .unset, .unset, .unset] [(.int (2 : Int32))])) _
      refine XS.goto X93.here hx rfl (pc0 := 24) (pc' := 28) rfl (hb hby at_24) (by decide) (by decide) ?_
      show Steps p.tables e below (T93.setTop (mkF m 28 #[.val (.long x0), .second, .val (.long x1), .second, .val (.long x2), .second, .val (.int x3), .val (.int x4), .val (.int (x4 &&& (3 : Int32))), .val (.int F_), .unset, .unset, .unset, .unset, .unset, .unset, .unset, .unset, .unset, .unset, .unset, .unset, .unset] [(.int (2 : Int32))])) _
      refine XS.istore X93.here hx rfl (hb hby at_28) rfl (l' := #[.val (.long x0), .second, .val (.long x1), .second, .val (.long x2), .second, .val (.int x3), .val (.int x4), .val (.int (x4 &&& (3 : Int32))), .val (.int F_), .val (.int (2 : Int32)), .unset, .unset, .unset, .unset, .unset, .unset, .unset, .unset, .unset, .unset, .unset, .unset]) rfl ?_
      show Steps p.tables e below (T93.setTop (mkF m 30 #[.val (.long x0), .second, .val (.long x1), .second, .val (.long x2), .second, .val (.int x3), .val (.int x4), .val (.int (x4 &&& (3 : Int32))), .val (.int F_), .val (.int (2 : Int32)), .unset, .unset, .unset, .unset, .unset, .unset, .unset, .unset, .unset, .unset, .unset, .unset] [])) _
      refine st96 _ ?_
      show Steps p.tables e below (T96.setTop (mkF m 33 #[.val (.long x0), .second, .val (.long x1), .second, .val (.long x2), .second, .val (.int x3), .val (.int x4), .val (.int (x4 &&& (3 : Int32))), .val (.int F_), .val (.int (2 : Int32)), .unset, .unset, .unset, .unset, .unset, .unset, .unset, .unset, .unset, .unset, .unset, .unset] [(.ref b96)])) _
      refine XS.dup X96.here hx rfl (hb hby at_33) rfl rfl ?_
      show Steps p.tables e below (T96.setTop (mkF m 34 #[.val (.long x0), .second, .val (.long x1), .second, .val (.long x2), .second, .val (.int x3), .val (.int x4), .val (.int (x4 &&& (3 : Int32))), .val (.int F_), .val (.int (2 : Int32)), .unset, .unset, .unset, .unset, .unset, .unset, .unset, .unset, .unset, .unset, .unset, .unset] [(.ref b96), (.ref b96)])) _
      refine st97 _ ?_
      show Steps p.tables e below (T97.setTop (mkF m 37 #[.val (.long x0), .second, .val (.long x1), .second, .val (.long x2), .second, .val (.int x3), .val (.int x4), .val (.int (x4 &&& (3 : Int32))), .val (.int F_), .val (.int (2 : Int32)), .unset, .unset, .unset, .unset, .unset, .unset, .unset, .unset, .unset, .unset, .unset, .unset] [(.ref b97), (.ref b96), (.ref b96)])) _
      refine XS.dup X97.here hx rfl (hb hby at_37) rfl rfl ?_
      show Steps p.tables e below (T97.setTop (mkF m 38 #[.val (.long x0), .second, .val (.long x1), .second, .val (.long x2), .second, .val (.int x3), .val (.int x4), .val (.int (x4 &&& (3 : Int32))), .val (.int F_), .val (.int (2 : Int32)), .unset, .unset, .unset, .unset, .unset, .unset, .unset, .unset, .unset, .unset, .unset, .unset] [(.ref b97), (.ref b97), (.ref b96), (.ref b96)])) _
      refine XS.iload X97.here hx rfl (hb hby at_38) rfl ?_
      show Steps p.tables e below (T97.setTop (mkF m 40 #[.val (.long x0), .second, .val (.long x1), .second, .val (.long x2), .second, .val (.int x3), .val (.int x4), .val (.int (x4 &&& (3 : Int32))), .val (.int F_), .val (.int (2 : Int32)), .unset, .unset, .unset, .unset, .unset, .unset, .unset, .unset, .unset, .unset, .unset, .unset] [(.int (2 : Int32)), (.ref b97), (.ref b97), (.ref b96), (.ref b96)])) _
      refine XS.iconst X97.here hx rfl (hb hby at_40) ?_
      show Steps p.tables e below (T97.setTop (mkF m 41 #[.val (.long x0), .second, .val (.long x1), .second, .val (.long x2), .second, .val (.int x3), .val (.int x4), .val (.int (x4 &&& (3 : Int32))), .val (.int F_), .val (.int (2 : Int32)), .unset, .unset, .unset, .unset, .unset, .unset, .unset, .unset, .unset, .unset, .unset, .unset] [(.int (1 : Int32)), (.int (2 : Int32)), (.ref b97), (.ref b97), (.ref b96), (.ref b96)])) _
      refine XS.iload X97.here hx rfl (hb hby at_41) rfl ?_
      show Steps p.tables e below (T97.setTop (mkF m 43 #[.val (.long x0), .second, .val (.long x1), .second, .val (.long x2), .second, .val (.int x3), .val (.int x4), .val (.int (x4 &&& (3 : Int32))), .val (.int F_), .val (.int (2 : Int32)), .unset, .unset, .unset, .unset, .unset, .unset, .unset, .unset, .unset, .unset, .unset, .unset] [(.int F_), (.int (1 : Int32)), (.int (2 : Int32)), (.ref b97), (.ref b97), (.ref b96), (.ref b96)])) _
      refine st98.trans ?_
      show Steps p.tables e below (T98.setTop (mkF m 46 #[.val (.long x0), .second, .val (.long x1), .second, .val (.long x2), .second, .val (.int x3), .val (.int x4), .val (.int (x4 &&& (3 : Int32))), .val (.int F_), .val (.int (2 : Int32)), .unset, .unset, .unset, .unset, .unset, .unset, .unset, .unset, .unset, .unset, .unset, .unset] [(.ref b97), (.ref b96), (.ref b96)])) _
      refine st99.trans ?_
      show Steps p.tables e below (T99.setTop (mkF m 49 #[.val (.long x0), .second, .val (.long x1), .second, .val (.long x2), .second, .val (.int x3), .val (.int x4), .val (.int (x4 &&& (3 : Int32))), .val (.int F_), .val (.int (2 : Int32)), .unset, .unset, .unset, .unset, .unset, .unset, .unset, .unset, .unset, .unset, .unset, .unset] [(.ref b96)])) _
      refine XS.astore X99.here hx rfl (hb hby at_49) rfl rfl (l' := #[.val (.long x0), .second, .val (.long x1), .second, .val (.long x2), .second, .val (.int x3), .val (.int x4), .val (.int (x4 &&& (3 : Int32))), .val (.int F_), .val (.int (2 : Int32)), .val (.ref b96), .unset, .unset, .unset, .unset, .unset, .unset, .unset, .unset, .unset, .unset, .unset]) rfl ?_
      show Steps p.tables e below (T99.setTop (mkF m 51 #[.val (.long x0), .second, .val (.long x1), .second, .val (.long x2), .second, .val (.int x3), .val (.int x4), .val (.int (x4 &&& (3 : Int32))), .val (.int F_), .val (.int (2 : Int32)), .val (.ref b96), .unset, .unset, .unset, .unset, .unset, .unset, .unset, .unset, .unset, .unset, .unset] [])) _
      refine XS.lloadN X99.here hx rfl (hb hby at_51) rfl ?_
      show Steps p.tables e below (T99.setTop (mkF m 52 #[.val (.long x0), .second, .val (.long x1), .second, .val (.long x2), .second, .val (.int x3), .val (.int x4), .val (.int (x4 &&& (3 : Int32))), .val (.int F_), .val (.int (2 : Int32)), .val (.ref b96), .unset, .unset, .unset, .unset, .unset, .unset, .unset, .unset, .unset, .unset, .unset] [(.long x1)])) _
      refine X99.ldc2Long hx hown (mvT hZ (hw _ (List.mem_of_getElem? (i := 78) rfl))) (g := (mkF m 52 #[.val (.long x0), .second, .val (.long x1), .second, .val (.long x2), .second, .val (.int x3), .val (.int x4), .val (.int (x4 &&& (3 : Int32))), .val (.int F_), .val (.int (2 : Int32)), .val (.ref b96), .unset, .unset, .unset, .unset, .unset, .unset, .unset, .unset, .unset, .unset, .unset] [(.long x1)])) rfl (hb hby at_52) _ ?_
      show Steps p.tables e below (T99.setTop (mkF m 55 #[.val (.long x0), .second, .val (.long x1), .second, .val (.long x2), .second, .val (.int x3), .val (.int x4), .val (.int (x4 &&& (3 : Int32))), .val (.int F_), .val (.int (2 : Int32)), .val (.ref b96), .unset, .unset, .unset, .unset, .unset, .unset, .unset, .unset, .unset, .unset, .unset] [(.long (9223372036854775807 : Int64)), (.long x1)])) _
      refine XS.land X99.here hx rfl (hb hby at_55) rfl ?_
      show Steps p.tables e below (T99.setTop (mkF m 56 #[.val (.long x0), .second, .val (.long x1), .second, .val (.long x2), .second, .val (.int x3), .val (.int x4), .val (.int (x4 &&& (3 : Int32))), .val (.int F_), .val (.int (2 : Int32)), .val (.ref b96), .unset, .unset, .unset, .unset, .unset, .unset, .unset, .unset, .unset, .unset, .unset] [(.long (x1 &&& (9223372036854775807 : Int64)))])) _
      refine XS.lstore X99.here hx rfl (hb hby at_56) rfl (l' := #[.val (.long x0), .second, .val (.long x1), .second, .val (.long x2), .second, .val (.int x3), .val (.int x4), .val (.int (x4 &&& (3 : Int32))), .val (.int F_), .val (.int (2 : Int32)), .val (.ref b96), .val (.long (x1 &&& (9223372036854775807 : Int64))), .second, .unset, .unset, .unset, .unset, .unset, .unset, .unset, .unset, .unset]) rfl ?_
      show Steps p.tables e below (T99.setTop (mkF m 58 #[.val (.long x0), .second, .val (.long x1), .second, .val (.long x2), .second, .val (.int x3), .val (.int x4), .val (.int (x4 &&& (3 : Int32))), .val (.int F_), .val (.int (2 : Int32)), .val (.ref b96), .val (.long (x1 &&& (9223372036854775807 : Int64))), .second, .unset, .unset, .unset, .unset, .unset, .unset, .unset, .unset, .unset] [])) _
      refine XS.lload X99.here hx rfl (hb hby at_58) rfl ?_
      show Steps p.tables e below (T99.setTop (mkF m 60 #[.val (.long x0), .second, .val (.long x1), .second, .val (.long x2), .second, .val (.int x3), .val (.int x4), .val (.int (x4 &&& (3 : Int32))), .val (.int F_), .val (.int (2 : Int32)), .val (.ref b96), .val (.long (x1 &&& (9223372036854775807 : Int64))), .second, .unset, .unset, .unset, .unset, .unset, .unset, .unset, .unset, .unset] [(.long x2)])) _
      refine X99.ldc2Long hx hown (mvT hZ (hw _ (List.mem_of_getElem? (i := 78) rfl))) (g := (mkF m 60 #[.val (.long x0), .second, .val (.long x1), .second, .val (.long x2), .second, .val (.int x3), .val (.int x4), .val (.int (x4 &&& (3 : Int32))), .val (.int F_), .val (.int (2 : Int32)), .val (.ref b96), .val (.long (x1 &&& (9223372036854775807 : Int64))), .second, .unset, .unset, .unset, .unset, .unset, .unset, .unset, .unset, .unset] [(.long x2)])) rfl (hb hby at_60) _ ?_
      show Steps p.tables e below (T99.setTop (mkF m 63 #[.val (.long x0), .second, .val (.long x1), .second, .val (.long x2), .second, .val (.int x3), .val (.int x4), .val (.int (x4 &&& (3 : Int32))), .val (.int F_), .val (.int (2 : Int32)), .val (.ref b96), .val (.long (x1 &&& (9223372036854775807 : Int64))), .second, .unset, .unset, .unset, .unset, .unset, .unset, .unset, .unset, .unset] [(.long (9223372036854775807 : Int64)), (.long x2)])) _
      refine XS.land X99.here hx rfl (hb hby at_63) rfl ?_
      show Steps p.tables e below (T99.setTop (mkF m 64 #[.val (.long x0), .second, .val (.long x1), .second, .val (.long x2), .second, .val (.int x3), .val (.int x4), .val (.int (x4 &&& (3 : Int32))), .val (.int F_), .val (.int (2 : Int32)), .val (.ref b96), .val (.long (x1 &&& (9223372036854775807 : Int64))), .second, .unset, .unset, .unset, .unset, .unset, .unset, .unset, .unset, .unset] [(.long (x2 &&& (9223372036854775807 : Int64)))])) _
      refine XS.lstore X99.here hx rfl (hb hby at_64) rfl (l' := #[.val (.long x0), .second, .val (.long x1), .second, .val (.long x2), .second, .val (.int x3), .val (.int x4), .val (.int (x4 &&& (3 : Int32))), .val (.int F_), .val (.int (2 : Int32)), .val (.ref b96), .val (.long (x1 &&& (9223372036854775807 : Int64))), .second, .val (.long (x2 &&& (9223372036854775807 : Int64))), .second, .unset, .unset, .unset, .unset, .unset, .unset, .unset]) rfl ?_
      show Steps p.tables e below (T99.setTop (mkF m 66 #[.val (.long x0), .second, .val (.long x1), .second, .val (.long x2), .second, .val (.int x3), .val (.int x4), .val (.int (x4 &&& (3 : Int32))), .val (.int F_), .val (.int (2 : Int32)), .val (.ref b96), .val (.long (x1 &&& (9223372036854775807 : Int64))), .second, .val (.long (x2 &&& (9223372036854775807 : Int64))), .second, .unset, .unset, .unset, .unset, .unset, .unset, .unset] [])) _
      refine XS.iload X99.here hx rfl (hb hby at_66) rfl ?_
      show Steps p.tables e below (T99.setTop (mkF m 68 #[.val (.long x0), .second, .val (.long x1), .second, .val (.long x2), .second, .val (.int x3), .val (.int x4), .val (.int (x4 &&& (3 : Int32))), .val (.int F_), .val (.int (2 : Int32)), .val (.ref b96), .val (.long (x1 &&& (9223372036854775807 : Int64))), .second, .val (.long (x2 &&& (9223372036854775807 : Int64))), .second, .unset, .unset, .unset, .unset, .unset, .unset, .unset] [(.int (x4 &&& (3 : Int32)))])) _
      refine XS.iconst X99.here hx rfl (hb hby at_68) ?_
      show Steps p.tables e below (T99.setTop (mkF m 69 #[.val (.long x0), .second, .val (.long x1), .second, .val (.long x2), .second, .val (.int x3), .val (.int x4), .val (.int (x4 &&& (3 : Int32))), .val (.int F_), .val (.int (2 : Int32)), .val (.ref b96), .val (.long (x1 &&& (9223372036854775807 : Int64))), .second, .val (.long (x2 &&& (9223372036854775807 : Int64))), .second, .unset, .unset, .unset, .unset, .unset, .unset, .unset] [(.int (3 : Int32)), (.int (x4 &&& (3 : Int32)))])) _
      refine XS.icmpYes X99.here hx rfl (pc0 := 69) (pc' := 79) rfl (hb hby at_69) rfl (feq (fun q => absurd (hc95.symm.trans q) (by decide) : ¬ ((x4 &&& (3 : Int32)) = (3 : Int32)))).2 (by decide) (by decide) ?_
      show Steps p.tables e below (T99.setTop (mkF m 79 #[.val (.long x0), .second, .val (.long x1), .second, .val (.long x2), .second, .val (.int x3), .val (.int x4), .val (.int (x4 &&& (3 : Int32))), .val (.int F_), .val (.int (2 : Int32)), .val (.ref b96), .val (.long (x1 &&& (9223372036854775807 : Int64))), .second, .val (.long (x2 &&& (9223372036854775807 : Int64))), .second, .unset, .unset, .unset, .unset, .unset, .unset, .unset] [])) _
      refine XS.lloadN X99.here hx rfl (hb hby at_79) rfl ?_
      show Steps p.tables e below (T99.setTop (mkF m 80 #[.val (.long x0), .second, .val (.long x1), .second, .val (.long x2), .second, .val (.int x3), .val (.int x4), .val (.int (x4 &&& (3 : Int32))), .val (.int F_), .val (.int (2 : Int32)), .val (.ref b96), .val (.long (x1 &&& (9223372036854775807 : Int64))), .second, .val (.long (x2 &&& (9223372036854775807 : Int64))), .second, .unset, .unset, .unset, .unset, .unset, .unset, .unset] [(.long x0)])) _
      refine XS.lstore X99.here hx rfl (hb hby at_80) rfl (l' := #[.val (.long x0), .second, .val (.long x1), .second, .val (.long x2), .second, .val (.int x3), .val (.int x4), .val (.int (x4 &&& (3 : Int32))), .val (.int F_), .val (.int (2 : Int32)), .val (.ref b96), .val (.long (x1 &&& (9223372036854775807 : Int64))), .second, .val (.long (x2 &&& (9223372036854775807 : Int64))), .second, .val (.long x0), .second, .unset, .unset, .unset, .unset, .unset]) rfl ?_
      show Steps p.tables e below (T99.setTop (mkF m 82 #[.val (.long x0), .second, .val (.long x1), .second, .val (.long x2), .second, .val (.int x3), .val (.int x4), .val (.int (x4 &&& (3 : Int32))), .val (.int F_), .val (.int (2 : Int32)), .val (.ref b96), .val (.long (x1 &&& (9223372036854775807 : Int64))), .second, .val (.long (x2 &&& (9223372036854775807 : Int64))), .second, .val (.long x0), .second, .unset, .unset, .unset, .unset, .unset] [])) _
      refine XS.iload X99.here hx rfl (hb hby at_82) rfl ?_
      show Steps p.tables e below (T99.setTop (mkF m 84 #[.val (.long x0), .second, .val (.long x1), .second, .val (.long x2), .second, .val (.int x3), .val (.int x4), .val (.int (x4 &&& (3 : Int32))), .val (.int F_), .val (.int (2 : Int32)), .val (.ref b96), .val (.long (x1 &&& (9223372036854775807 : Int64))), .second, .val (.long (x2 &&& (9223372036854775807 : Int64))), .second, .val (.long x0), .second, .unset, .unset, .unset, .unset, .unset] [(.int (x4 &&& (3 : Int32)))])) _
      refine XS.ifNo X99.here hx rfl (hb hby at_84) rfl ((if0 _ _).trans (feq (fun q => absurd (hc95.symm.trans q) (by decide) : ¬ ((x4 &&& (3 : Int32)) = (0 : Int32)))).1) ?_
      show Steps p.tables e below (T99.setTop (mkF m 87 #[.val (.long x0), .second, .val (.long x1), .second, .val (.long x2), .second, .val (.int x3), .val (.int x4), .val (.int (x4 &&& (3 : Int32))), .val (.int F_), .val (.int (2 : Int32)), .val (.ref b96), .val (.long (x1 &&& (9223372036854775807 : Int64))), .second, .val (.long (x2 &&& (9223372036854775807 : Int64))), .second, .val (.long x0), .second, .unset, .unset, .unset, .unset, .unset] [])) _
      refine XS.aload X99.here hx rfl (hb hby at_87) rfl rfl ?_
      show Steps p.tables e below (T99.setTop (mkF m 89 #[.val (.long x0), .second, .val (.long x1), .second, .val (.long x2), .second, .val (.int x3), .val (.int x4), .val (.int (x4 &&& (3 : Int32))), .val (.int F_), .val (.int (2 : Int32)), .val (.ref b96), .val (.long (x1 &&& (9223372036854775807 : Int64))), .second, .val (.long (x2 &&& (9223372036854775807 : Int64))), .second, .val (.long x0), .second, .unset, .unset, .unset, .unset, .unset] [(.ref b96)])) _
      refine XS.lloadN X99.here hx rfl (hb hby at_89) rfl ?_
      show Steps p.tables e below (T99.setTop (mkF m 90 #[.val (.long x0), .second, .val (.long x1), .second, .val (.long x2), .second, .val (.int x3), .val (.int x4), .val (.int (x4 &&& (3 : Int32))), .val (.int F_), .val (.int (2 : Int32)), .val (.ref b96), .val (.long (x1 &&& (9223372036854775807 : Int64))), .second, .val (.long (x2 &&& (9223372036854775807 : Int64))), .second, .val (.long x0), .second, .unset, .unset, .unset, .unset, .unset] [(.long x0), (.ref b96)])) _
      refine st101.trans ?_
      show Steps p.tables e below (T101.setTop (mkF m 93 #[.val (.long x0), .second, .val (.long x1), .second, .val (.long x2), .second, .val (.int x3), .val (.int x4), .val (.int (x4 &&& (3 : Int32))), .val (.int F_), .val (.int (2 : Int32)), .val (.ref b96), .val (.long (x1 &&& (9223372036854775807 : Int64))), .second, .val (.long (x2 &&& (9223372036854775807 : Int64))), .second, .val (.long x0), .second, .unset, .unset, .unset, .unset, .unset] [(.int (0 : Int32))])) _
      refine XS.pop X101.here hx rfl (hb hby at_93) rfl rfl ?_
      show Steps p.tables e below (T101.setTop (mkF m 94 #[.val (.long x0), .second, .val (.long x1), .second, .val (.long x2), .second, .val (.int x3), .val (.int x4), .val (.int (x4 &&& (3 : Int32))), .val (.int F_), .val (.int (2 : Int32)), .val (.ref b96), .val (.long (x1 &&& (9223372036854775807 : Int64))), .second, .val (.long (x2 &&& (9223372036854775807 : Int64))), .second, .val (.long x0), .second, .unset, .unset, .unset, .unset, .unset] [])) _
      refine XS.iload X101.here hx rfl (hb hby at_94) rfl ?_
      show Steps p.tables e below (T101.setTop (mkF m 96 #[.val (.long x0), .second, .val (.long x1), .second, .val (.long x2), .second, .val (.int x3), .val (.int x4), .val (.int (x4 &&& (3 : Int32))), .val (.int F_), .val (.int (2 : Int32)), .val (.ref b96), .val (.long (x1 &&& (9223372036854775807 : Int64))), .second, .val (.long (x2 &&& (9223372036854775807 : Int64))), .second, .val (.long x0), .second, .unset, .unset, .unset, .unset, .unset] [(.int (x4 &&& (3 : Int32)))])) _
      refine XS.iconst X101.here hx rfl (hb hby at_96) ?_
      show Steps p.tables e below (T101.setTop (mkF m 97 #[.val (.long x0), .second, .val (.long x1), .second, .val (.long x2), .second, .val (.int x3), .val (.int x4), .val (.int (x4 &&& (3 : Int32))), .val (.int F_), .val (.int (2 : Int32)), .val (.ref b96), .val (.long (x1 &&& (9223372036854775807 : Int64))), .second, .val (.long (x2 &&& (9223372036854775807 : Int64))), .second, .val (.long x0), .second, .unset, .unset, .unset, .unset, .unset] [(.int (3 : Int32)), (.int (x4 &&& (3 : Int32)))])) _
      refine XS.icmpYes X101.here hx rfl (pc0 := 97) (pc' := 110) rfl (hb hby at_97) rfl (feq (fun q => absurd (hc95.symm.trans q) (by decide) : ¬ ((x4 &&& (3 : Int32)) = (3 : Int32)))).2 (by decide) (by decide) ?_
      show Steps p.tables e below (T101.setTop (mkF m 110 #[.val (.long x0), .second, .val (.long x1), .second, .val (.long x2), .second, .val (.int x3), .val (.int x4), .val (.int (x4 &&& (3 : Int32))), .val (.int F_), .val (.int (2 : Int32)), .val (.ref b96), .val (.long (x1 &&& (9223372036854775807 : Int64))), .second, .val (.long (x2 &&& (9223372036854775807 : Int64))), .second, .val (.long x0), .second, .unset, .unset, .unset, .unset, .unset] [])) _
      refine XS.lload X101.here hx rfl (hb hby at_110) rfl ?_
      show Steps p.tables e below (T101.setTop (mkF m 112 #[.val (.long x0), .second, .val (.long x1), .second, .val (.long x2), .second, .val (.int x3), .val (.int x4), .val (.int (x4 &&& (3 : Int32))), .val (.int F_), .val (.int (2 : Int32)), .val (.ref b96), .val (.long (x1 &&& (9223372036854775807 : Int64))), .second, .val (.long (x2 &&& (9223372036854775807 : Int64))), .second, .val (.long x0), .second, .unset, .unset, .unset, .unset, .unset] [(.long x0)])) _
      refine XS.lload X101.here hx rfl (hb hby at_112) rfl ?_
      show Steps p.tables e below (T101.setTop (mkF m 114 #[.val (.long x0), .second, .val (.long x1), .second, .val (.long x2), .second, .val (.int x3), .val (.int x4), .val (.int (x4 &&& (3 : Int32))), .val (.int F_), .val (.int (2 : Int32)), .val (.ref b96), .val (.long (x1 &&& (9223372036854775807 : Int64))), .second, .val (.long (x2 &&& (9223372036854775807 : Int64))), .second, .val (.long x0), .second, .unset, .unset, .unset, .unset, .unset] [(.long (x2 &&& (9223372036854775807 : Int64))), (.long x0)])) _
      refine XS.ladd X101.here hx rfl (hb hby at_114) rfl ?_
      show Steps p.tables e below (T101.setTop (mkF m 115 #[.val (.long x0), .second, .val (.long x1), .second, .val (.long x2), .second, .val (.int x3), .val (.int x4), .val (.int (x4 &&& (3 : Int32))), .val (.int F_), .val (.int (2 : Int32)), .val (.ref b96), .val (.long (x1 &&& (9223372036854775807 : Int64))), .second, .val (.long (x2 &&& (9223372036854775807 : Int64))), .second, .val (.long x0), .second, .unset, .unset, .unset, .unset, .unset] [(.long (x0 + (x2 &&& (9223372036854775807 : Int64))))])) _
      refine XS.lstore X101.here hx rfl (hb hby at_115) rfl (l' := #[.val (.long x0), .second, .val (.long x1), .second, .val (.long x2), .second, .val (.int x3), .val (.int x4), .val (.int (x4 &&& (3 : Int32))), .val (.int F_), .val (.int (2 : Int32)), .val (.ref b96), .val (.long (x1 &&& (9223372036854775807 : Int64))), .second, .val (.long (x2 &&& (9223372036854775807 : Int64))), .second, .val (.long x0), .second, .val (.long (x0 + (x2 &&& (9223372036854775807 : Int64)))), .second, .unset, .unset, .unset]) rfl ?_
      show Steps p.tables e below (T101.setTop (mkF m 117 #[.val (.long x0), .second, .val (.long x1), .second, .val (.long x2), .second, .val (.int x3), .val (.int x4), .val (.int (x4 &&& (3 : Int32))), .val (.int F_), .val (.int (2 : Int32)), .val (.ref b96), .val (.long (x1 &&& (9223372036854775807 : Int64))), .second, .val (.long (x2 &&& (9223372036854775807 : Int64))), .second, .val (.long x0), .second, .val (.long (x0 + (x2 &&& (9223372036854775807 : Int64)))), .second, .unset, .unset, .unset] [])) _
      refine XS.iload X101.here hx rfl (hb hby at_117) rfl ?_
      show Steps p.tables e below (T101.setTop (mkF m 119 #[.val (.long x0), .second, .val (.long x1), .second, .val (.long x2), .second, .val (.int x3), .val (.int x4), .val (.int (x4 &&& (3 : Int32))), .val (.int F_), .val (.int (2 : Int32)), .val (.ref b96), .val (.long (x1 &&& (9223372036854775807 : Int64))), .second, .val (.long (x2 &&& (9223372036854775807 : Int64))), .second, .val (.long x0), .second, .val (.long (x0 + (x2 &&& (9223372036854775807 : Int64)))), .second, .unset, .unset, .unset] [(.int F_)])) _
      refine XS.i2l X101.here hx rfl (hb hby at_119) rfl ?_
      show Steps p.tables e below (T101.setTop (mkF m 120 #[.val (.long x0), .second, .val (.long x1), .second, .val (.long x2), .second, .val (.int x3), .val (.int x4), .val (.int (x4 &&& (3 : Int32))), .val (.int F_), .val (.int (2 : Int32)), .val (.ref b96), .val (.long (x1 &&& (9223372036854775807 : Int64))), .second, .val (.long (x2 &&& (9223372036854775807 : Int64))), .second, .val (.long x0), .second, .val (.long (x0 + (x2 &&& (9223372036854775807 : Int64)))), .second, .unset, .unset, .unset] [(.long (F_.toInt64))])) _
      refine X101.ldc2Long hx hown (mvT hZ (hw _ (List.mem_of_getElem? (i := 143) rfl))) (g := (mkF m 120 #[.val (.long x0), .second, .val (.long x1), .second, .val (.long x2), .second, .val (.int x3), .val (.int x4), .val (.int (x4 &&& (3 : Int32))), .val (.int F_), .val (.int (2 : Int32)), .val (.ref b96), .val (.long (x1 &&& (9223372036854775807 : Int64))), .second, .val (.long (x2 &&& (9223372036854775807 : Int64))), .second, .val (.long x0), .second, .val (.long (x0 + (x2 &&& (9223372036854775807 : Int64)))), .second, .unset, .unset, .unset] [(.long (F_.toInt64))])) rfl (hb hby at_120) _ ?_
      show Steps p.tables e below (T101.setTop (mkF m 123 #[.val (.long x0), .second, .val (.long x1), .second, .val (.long x2), .second, .val (.int x3), .val (.int x4), .val (.int (x4 &&& (3 : Int32))), .val (.int F_), .val (.int (2 : Int32)), .val (.ref b96), .val (.long (x1 &&& (9223372036854775807 : Int64))), .second, .val (.long (x2 &&& (9223372036854775807 : Int64))), .second, .val (.long x0), .second, .val (.long (x0 + (x2 &&& (9223372036854775807 : Int64)))), .second, .unset, .unset, .unset] [(.long (1000000 : Int64)), (.long (F_.toInt64))])) _
      refine XS.lmul X101.here hx rfl (hb hby at_123) rfl ?_
      show Steps p.tables e below (T101.setTop (mkF m 124 #[.val (.long x0), .second, .val (.long x1), .second, .val (.long x2), .second, .val (.int x3), .val (.int x4), .val (.int (x4 &&& (3 : Int32))), .val (.int F_), .val (.int (2 : Int32)), .val (.ref b96), .val (.long (x1 &&& (9223372036854775807 : Int64))), .second, .val (.long (x2 &&& (9223372036854775807 : Int64))), .second, .val (.long x0), .second, .val (.long (x0 + (x2 &&& (9223372036854775807 : Int64)))), .second, .unset, .unset, .unset] [(.long ((F_.toInt64) * (1000000 : Int64)))])) _
      refine XS.lstore X101.here hx rfl (hb hby at_124) rfl (l' := #[.val (.long x0), .second, .val (.long x1), .second, .val (.long x2), .second, .val (.int x3), .val (.int x4), .val (.int (x4 &&& (3 : Int32))), .val (.int F_), .val (.int (2 : Int32)), .val (.ref b96), .val (.long (x1 &&& (9223372036854775807 : Int64))), .second, .val (.long (x2 &&& (9223372036854775807 : Int64))), .second, .val (.long x0), .second, .val (.long (x0 + (x2 &&& (9223372036854775807 : Int64)))), .second, .val (.long ((F_.toInt64) * (1000000 : Int64))), .second, .unset]) rfl ?_
      show Steps p.tables e below (T101.setTop (mkF m 126 #[.val (.long x0), .second, .val (.long x1), .second, .val (.long x2), .second, .val (.int x3), .val (.int x4), .val (.int (x4 &&& (3 : Int32))), .val (.int F_), .val (.int (2 : Int32)), .val (.ref b96), .val (.long (x1 &&& (9223372036854775807 : Int64))), .second, .val (.long (x2 &&& (9223372036854775807 : Int64))), .second, .val (.long x0), .second, .val (.long (x0 + (x2 &&& (9223372036854775807 : Int64)))), .second, .val (.long ((F_.toInt64) * (1000000 : Int64))), .second, .unset] [])) _
      refine XS.iload X101.here hx rfl (hb hby at_126) rfl ?_
      show Steps p.tables e below (T101.setTop (mkF m 128 #[.val (.long x0), .second, .val (.long x1), .second, .val (.long x2), .second, .val (.int x3), .val (.int x4), .val (.int (x4 &&& (3 : Int32))), .val (.int F_), .val (.int (2 : Int32)), .val (.ref b96), .val (.long (x1 &&& (9223372036854775807 : Int64))), .second, .val (.long (x2 &&& (9223372036854775807 : Int64))), .second, .val (.long x0), .second, .val (.long (x0 + (x2 &&& (9223372036854775807 : Int64)))), .second, .val (.long ((F_.toInt64) * (1000000 : Int64))), .second, .unset] [(.int (x4 &&& (3 : Int32)))])) _
      refine XS.iconst X101.here hx rfl (hb hby at_128) ?_
      show Steps p.tables e below (T101.setTop (mkF m 129 #[.val (.long x0), .second, .val (.long x1), .second, .val (.long x2), .second, .val (.int x3), .val (.int x4), .val (.int (x4 &&& (3 : Int32))), .val (.int F_), .val (.int (2 : Int32)), .val (.ref b96), .val (.long (x1 &&& (9223372036854775807 : Int64))), .second, .val (.long (x2 &&& (9223372036854775807 : Int64))), .second, .val (.long x0), .second, .val (.long (x0 + (x2 &&& (9223372036854775807 : Int64)))), .second, .val (.long ((F_.toInt64) * (1000000 : Int64))), .second, .unset] [(.int (1 : Int32)), (.int (x4 &&& (3 : Int32)))])) _
      refine XS.icmpNo X101.here hx rfl (hb hby at_129) rfl (feq (fun q => absurd (hc95.symm.trans q) (by decide) : ¬ ((x4 &&& (3 : Int32)) = (1 : Int32)))).1 ?_
      show Steps p.tables e below (T101.setTop (mkF m 132 #[.val (.long x0), .second, .val (.long x1), .second, .val (.long x2), .second, .val (.int x3), .val (.int x4), .val (.int (x4 &&& (3 : Int32))), .val (.int F_), .val (.int (2 : Int32)), .val (.ref b96), .val (.long (x1 &&& (9223372036854775807 : Int64))), .second, .val (.long (x2 &&& (9223372036854775807 : Int64))), .second, .val (.long x0), .second, .val (.long (x0 + (x2 &&& (9223372036854775807 : Int64)))), .second, .val (.long ((F_.toInt64) * (1000000 : Int64))), .second, .unset] [])) _
      refine XS.iload X101.here hx rfl (hb hby at_132) rfl ?_
      show Steps p.tables e below (T101.setTop (mkF m 134 #[.val (.long x0), .second, .val (.long x1), .second, .val (.long x2), .second, .val (.int x3), .val (.int x4), .val (.int (x4 &&& (3 : Int32))), .val (.int F_), .val (.int (2 : Int32)), .val (.ref b96), .val (.long (x1 &&& (9223372036854775807 : Int64))), .second, .val (.long (x2 &&& (9223372036854775807 : Int64))), .second, .val (.long x0), .second, .val (.long (x0 + (x2 &&& (9223372036854775807 : Int64)))), .second, .val (.long ((F_.toInt64) * (1000000 : Int64))), .second, .unset] [(.int (x4 &&& (3 : Int32)))])) _
      refine XS.iconst X101.here hx rfl (hb hby at_134) ?_
      show Steps p.tables e below (T101.setTop (mkF m 135 #[.val (.long x0), .second, .val (.long x1), .second, .val (.long x2), .second, .val (.int x3), .val (.int x4), .val (.int (x4 &&& (3 : Int32))), .val (.int F_), .val (.int (2 : Int32)), .val (.ref b96), .val (.long (x1 &&& (9223372036854775807 : Int64))), .second, .val (.long (x2 &&& (9223372036854775807 : Int64))), .second, .val (.long x0), .second, .val (.long (x0 + (x2 &&& (9223372036854775807 : Int64)))), .second, .val (.long ((F_.toInt64) * (1000000 : Int64))), .second, .unset] [(.int (3 : Int32)), (.int (x4 &&& (3 : Int32)))])) _
      refine XS.icmpYes X101.here hx rfl (pc0 := 135) (pc' := 150) rfl (hb hby at_135) rfl (feq (fun q => absurd (hc95.symm.trans q) (by decide) : ¬ ((x4 &&& (3 : Int32)) = (3 : Int32)))).2 (by decide) (by decide) ?_
      show Steps p.tables e below (T101.setTop (mkF m 150 #[.val (.long x0), .second, .val (.long x1), .second, .val (.long x2), .second, .val (.int x3), .val (.int x4), .val (.int (x4 &&& (3 : Int32))), .val (.int F_), .val (.int (2 : Int32)), .val (.ref b96), .val (.long (x1 &&& (9223372036854775807 : Int64))), .second, .val (.long (x2 &&& (9223372036854775807 : Int64))), .second, .val (.long x0), .second, .val (.long (x0 + (x2 &&& (9223372036854775807 : Int64)))), .second, .val (.long ((F_.toInt64) * (1000000 : Int64))), .second, .unset] [])) _
      refine XS.iconst X101.here hx rfl (hb hby at_150) ?_
      show Steps p.tables e below (T101.setTop (mkF m 151 #[.val (.long x0), .second, .val (.long x1), .second, .val (.long x2), .second, .val (.int x3), .val (.int x4), .val (.int (x4 &&& (3 : Int32))), .val (.int F_), .val (.int (2 : Int32)), .val (.ref b96), .val (.long (x1 &&& (9223372036854775807 : Int64))), .second, .val (.long (x2 &&& (9223372036854775807 : Int64))), .second, .val (.long x0), .second, .val (.long (x0 + (x2 &&& (9223372036854775807 : Int64)))), .second, .val (.long ((F_.toInt64) * (1000000 : Int64))), .second, .unset] [(.int (0 : Int32))])) _
      refine XS.istore X101.here hx rfl (hb hby at_151) rfl (l' := #[.val (.long x0), .second, .val (.long x1), .second, .val (.long x2), .second, .val (.int x3), .val (.int x4), .val (.int (x4 &&& (3 : Int32))), .val (.int F_), .val (.int (2 : Int32)), .val (.ref b96), .val (.long (x1 &&& (9223372036854775807 : Int64))), .second, .val (.long (x2 &&& (9223372036854775807 : Int64))), .second, .val (.long x0), .second, .val (.long (x0 + (x2 &&& (9223372036854775807 : Int64)))), .second, .val (.long ((F_.toInt64) * (1000000 : Int64))), .second, .val (.int (0 : Int32))]) rfl ?_
      show Steps p.tables e below (T101.setTop (mkF m 153 #[.val (.long x0), .second, .val (.long x1), .second, .val (.long x2), .second, .val (.int x3), .val (.int x4), .val (.int (x4 &&& (3 : Int32))), .val (.int F_), .val (.int (2 : Int32)), .val (.ref b96), .val (.long (x1 &&& (9223372036854775807 : Int64))), .second, .val (.long (x2 &&& (9223372036854775807 : Int64))), .second, .val (.long x0), .second, .val (.long (x0 + (x2 &&& (9223372036854775807 : Int64)))), .second, .val (.long ((F_.toInt64) * (1000000 : Int64))), .second, .val (.int (0 : Int32))] [])) _
      refine XS.aload X101.here hx rfl (hb hby at_153) rfl rfl ?_
      show Steps p.tables e below (T101.setTop (mkF m 155 #[.val (.long x0), .second, .val (.long x1), .second, .val (.long x2), .second, .val (.int x3), .val (.int x4), .val (.int (x4 &&& (3 : Int32))), .val (.int F_), .val (.int (2 : Int32)), .val (.ref b96), .val (.long (x1 &&& (9223372036854775807 : Int64))), .second, .val (.long (x2 &&& (9223372036854775807 : Int64))), .second, .val (.long x0), .second, .val (.long (x0 + (x2 &&& (9223372036854775807 : Int64)))), .second, .val (.long ((F_.toInt64) * (1000000 : Int64))), .second, .val (.int (0 : Int32))] [(.ref b96)])) _
      refine XS.lload X101.here hx rfl (hb hby at_155) rfl ?_
      show Steps p.tables e below (T101.setTop (mkF m 157 #[.val (.long x0), .second, .val (.long x1), .second, .val (.long x2), .second, .val (.int x3), .val (.int x4), .val (.int (x4 &&& (3 : Int32))), .val (.int F_), .val (.int (2 : Int32)), .val (.ref b96), .val (.long (x1 &&& (9223372036854775807 : Int64))), .second, .val (.long (x2 &&& (9223372036854775807 : Int64))), .second, .val (.long x0), .second, .val (.long (x0 + (x2 &&& (9223372036854775807 : Int64)))), .second, .val (.long ((F_.toInt64) * (1000000 : Int64))), .second, .val (.int (0 : Int32))] [(.long (x0 + (x2 &&& (9223372036854775807 : Int64)))), (.ref b96)])) _
      refine st102.trans ?_
      show Steps p.tables e below (T102.setTop (mkF m 160 #[.val (.long x0), .second, .val (.long x1), .second, .val (.long x2), .second, .val (.int x3), .val (.int x4), .val (.int (x4 &&& (3 : Int32))), .val (.int F_), .val (.int (2 : Int32)), .val (.ref b96), .val (.long (x1 &&& (9223372036854775807 : Int64))), .second, .val (.long (x2 &&& (9223372036854775807 : Int64))), .second, .val (.long x0), .second, .val (.long (x0 + (x2 &&& (9223372036854775807 : Int64)))), .second, .val (.long ((F_.toInt64) * (1000000 : Int64))), .second, .val (.int (0 : Int32))] [(.int (0 : Int32))])) _
      refine XS.iload X102.here hx rfl (hb hby at_160) rfl ?_
      show Steps p.tables e below (T102.setTop (mkF m 162 #[.val (.long x0), .second, .val (.long x1), .second, .val (.long x2), .second, .val (.int x3), .val (.int x4), .val (.int (x4 &&& (3 : Int32))), .val (.int F_), .val (.int (2 : Int32)), .val (.ref b96), .val (.long (x1 &&& (9223372036854775807 : Int64))), .second, .val (.long (x2 &&& (9223372036854775807 : Int64))), .second, .val (.long x0), .second, .val (.long (x0 + (x2 &&& (9223372036854775807 : Int64)))), .second, .val (.long ((F_.toInt64) * (1000000 : Int64))), .second, .val (.int (0 : Int32))] [(.int (0 : Int32)), (.int (0 : Int32))])) _
      refine XS.icmpNo X102.here hx rfl (hb hby at_162) rfl (teq (by decide : (0 : Int32) = (0 : Int32))).2 ?_
      show Steps p.tables e below (T102.setTop (mkF m 165 #[.val (.long x0), .second, .val (.long x1), .second, .val (.long x2), .second, .val (.int x3), .val (.int x4), .val (.int (x4 &&& (3 : Int32))), .val (.int F_), .val (.int (2 : Int32)), .val (.ref b96), .val (.long (x1 &&& (9223372036854775807 : Int64))), .second, .val (.long (x2 &&& (9223372036854775807 : Int64))), .second, .val (.long x0), .second, .val (.long (x0 + (x2 &&& (9223372036854775807 : Int64)))), .second, .val (.long ((F_.toInt64) * (1000000 : Int64))), .second, .val (.int (0 : Int32))] [])) _
      refine XS.iconst X102.here hx rfl (hb hby at_165) ?_
      show Steps p.tables e below (T102.setTop (mkF m 166 #[.val (.long x0), .second, .val (.long x1), .second, .val (.long x2), .second, .val (.int x3), .val (.int x4), .val (.int (x4 &&& (3 : Int32))), .val (.int F_), .val (.int (2 : Int32)), .val (.ref b96), .val (.long (x1 &&& (9223372036854775807 : Int64))), .second, .val (.long (x2 &&& (9223372036854775807 : Int64))), .second, .val (.long x0), .second, .val (.long (x0 + (x2 &&& (9223372036854775807 : Int64)))), .second, .val (.long ((F_.toInt64) * (1000000 : Int64))), .second, .val (.int (0 : Int32))] [(.int (1 : Int32))])) _
      refine XS.goto X102.here hx rfl (pc0 := 166) (pc' := 170) rfl (hb hby at_166) (by decide) (by decide) ?_
      show Steps p.tables e below (T102.setTop (mkF m 170 #[.val (.long x0), .second, .val (.long x1), .second, .val (.long x2), .second, .val (.int x3), .val (.int x4), .val (.int (x4 &&& (3 : Int32))), .val (.int F_), .val (.int (2 : Int32)), .val (.ref b96), .val (.long (x1 &&& (9223372036854775807 : Int64))), .second, .val (.long (x2 &&& (9223372036854775807 : Int64))), .second, .val (.long x0), .second, .val (.long (x0 + (x2 &&& (9223372036854775807 : Int64)))), .second, .val (.long ((F_.toInt64) * (1000000 : Int64))), .second, .val (.int (0 : Int32))] [(.int (1 : Int32))])) _
      exact retN X102 hx (t := .boolean) Bd.returns (by simp) (hb hby at_170) hr
    · show Q_0 Z x0 x1 x2 x3 x4 F_ tu cl ca h0 n0 _ T102.heap _
      rw [e102q]
      exact ⟨rfl, N102⟩
  · skip
    obtain ⟨T103, h103, X103, e103, E103, A103, D103, -, st103⟩ := newO X93 hx hZ hown (hw _ (List.mem_of_getElem? (i := 5) rfl)) (hw _ (List.mem_of_getElem? (i := 6) rfl)) (hw _ (List.mem_of_getElem? (i := 7) rfl)) e93q (g := (mkF m 30 #[.val (.long x0), .second, .val (.long x1), .second, .val (.long x2), .second, .val (.int x3), .val (.int x4), .val (.int (x4 &&& (3 : Int32))), .val (.int F_), .val (.int (1 : Int32)), .unset, .unset, .unset, .unset, .unset, .unset, .unset, .unset, .unset, .unset, .unset, .unset] [])) rfl (hb hby at_30) (by decide) (by decide)
    obtain ⟨b103, g103⟩ : ∃ z, z = h0.size := ⟨_, rfl⟩
    rw [← g103] at A103 D103 st103
    have g_b103 : n0 ≤ b103 := Nat.le_trans Z0 (Nat.le_of_eq g103.symm)
    have sz_b103 : h0.size ≤ b103 := Nat.le_trans K0.1 (Nat.le_of_eq g103.symm)
    have F_times_b103 : Fld Z h103 b103 "com/example/gated_chorus/gatedchorus/limit/Kicks" "times" "Ljava/util/Deque;" .null := D103 (Or.inr (hw _ (List.mem_of_getElem? (i := 45) rfl))) (ty := (.object "java/util/Deque")) (by decide)
    have F_kicks_b103 : Fld Z h103 b103 "com/example/gated_chorus/gatedchorus/limit/Kicks" "kicks" "I" (.int (0 : Int32)) := D103 (Or.inr (hw _ (List.mem_of_getElem? (i := 52) rfl))) (ty := .int) (by decide)
    have F_withinNanos_b103 : Fld Z h103 b103 "com/example/gated_chorus/gatedchorus/limit/Kicks" "withinNanos" "J" (.long (0 : Int64)) := D103 (Or.inr (hw _ (List.mem_of_getElem? (i := 70) rfl))) (ty := .long) (by decide)
    have F_forNanos_b103 : Fld Z h103 b103 "com/example/gated_chorus/gatedchorus/limit/Kicks" "forNanos" "J" (.long (0 : Int64)) := D103 (Or.inr (hw _ (List.mem_of_getElem? (i := 77) rfl))) (ty := .long) (by decide)
    have F_banned_b103 : Fld Z h103 b103 "com/example/gated_chorus/gatedchorus/limit/Kicks" "banned" "Z" (.int (0 : Int32)) := D103 (Or.inl (hw _ (List.mem_of_getElem? (i := 140) rfl))) (ty := .boolean) (by decide)
    have F_bannedUntil_b103 : Fld Z h103 b103 "com/example/gated_chorus/gatedchorus/limit/Kicks" "bannedUntil" "J" (.long (0 : Int64)) := D103 (Or.inl (hw _ (List.mem_of_getElem? (i := 142) rfl))) (ty := .long) (by decide)
    have K103 : Keep h0 h103 [] := K0.ext E103
    have Z103 : n0 ≤ h103.size := (Nat.le_trans Z0 E103.1)
    obtain ⟨T104, h104, X104, e104, E104, A104, D104, -, st104⟩ := newO X103 hx hZ hown (hw _ (List.mem_of_getElem? (i := 8) rfl)) (hw _ (List.mem_of_getElem? (i := 9) rfl)) (hw _ (List.mem_of_getElem? (i := 10) rfl)) e103 (g := (mkF m 34 #[.val (.long x0), .second, .val (.long x1), .second, .val (.long x2), .second, .val (.int x3), .val (.int x4), .val (.int (x4 &&& (3 : Int32))), .val (.int F_), .val (.int (1 : Int32)), .unset, .unset, .unset, .unset, .unset, .unset, .unset, .unset, .unset, .unset, .unset, .unset] [(.ref b103), (.ref b103)])) rfl (hb hby at_34) (by decide) (by decide)
    obtain ⟨b104, g104⟩ : ∃ z, z = h103.size := ⟨_, rfl⟩
    rw [← g104] at A104 D104 st104
    have g_b104 : n0 ≤ b104 := Nat.le_trans Z103 (Nat.le_of_eq g104.symm)
    have sz_b104 : h0.size ≤ b104 := Nat.le_trans K103.1 (Nat.le_of_eq g104.symm)
    have F_kicks_b104 : Fld Z h104 b104 "com/example/gated_chorus/gatedchorus/limit/Ban" "kicks" "I" (.int (0 : Int32)) := D104 (Or.inr (hw _ (List.mem_of_getElem? (i := 18) rfl))) (ty := .int) (by decide)
    have F_withinMs_b104 : Fld Z h104 b104 "com/example/gated_chorus/gatedchorus/limit/Ban" "withinMs" "I" (.int (0 : Int32)) := D104 (Or.inr (hw _ (List.mem_of_getElem? (i := 20) rfl))) (ty := .int) (by decide)
    have F_forMs_b104 : Fld Z h104 b104 "com/example/gated_chorus/gatedchorus/limit/Ban" "forMs" "I" (.int (0 : Int32)) := D104 (Or.inr (hw _ (List.mem_of_getElem? (i := 22) rfl))) (ty := .int) (by decide)
    have K104 : Keep h0 h104 [] := K103.ext E104
    have Z104 : n0 ≤ h104.size := (Nat.le_trans Z103 E104.1)
    obtain ⟨_, _, ⟨T105, L105, k105, n105⟩, -, X105, ⟨Lc105, hQ105, l105, y105, z105⟩, st105⟩ := X104.specialBack hx (y := (⟨"com/example/gated_chorus/gatedchorus/limit/Ban", "<init>", "(III)V"⟩ : MethodName)) rfl hown (mvT hZ (hw _ (List.mem_of_getElem? (i := 11) rfl))) (mvT hZ (hw _ (List.mem_of_getElem? (i := 12) rfl))) (mvT hZ (hw _ (List.mem_of_getElem? (i := 13) rfl))) (by decide) (backOf (W := 3) (rm_2 l Z a0 hw [] b104 (1 : Int32) (1 : Int32) F_ h104 n0 Z104 A104 F_kicks_b104 F_withinMs_b104 F_forMs_b104 g_b104) hZ (hw _ (List.mem_of_getElem? (i := 13) rfl)) (hw _ (List.mem_of_getElem? (i := 10) rfl)) (by decide) (by decide)) (g := (mkF m 43 #[.val (.long x0), .second, .val (.long x1), .second, .val (.long x2), .second, .val (.int x3), .val (.int x4), .val (.int (x4 &&& (3 : Int32))), .val (.int F_), .val (.int (1 : Int32)), .unset, .unset, .unset, .unset, .unset, .unset, .unset, .unset, .unset, .unset, .unset, .unset] [(.int F_), (.int (1 : Int32)), (.int (1 : Int32)), (.ref b104), (.ref b104), (.ref b103), (.ref b103)])) rfl (by rw [hml]; rfl) (Steps.refl _) (a := b104) (argsL := [(.int (1 : Int32)), (.int (1 : Int32)), (.int F_)]) (rest := [(.ref b104), (.ref b103), (.ref b103)]) (lenOf pd__III_V rfl) rfl (by show 2 * 0 + _ ≤ _; exact Nat.le_of_eq rfl) (hb hby at_43) (fun _ _ => ⟨rfl, e104, (by decide : 2 + 0 ≤ _), (by decide : 9 + 0 ≤ _)⟩)
    dsimp only [Pt.U, Pt.locs, Pt.cells, Pt.slots] at X105 l105 y105 z105 st105 hQ105
    subst l105 y105 z105
    obtain ⟨rfl, N105q, K105q, E105q, Fk105q, Fw105q, Ff105q⟩ := hQ105
    have N105 := Fr.app N93 N105q
    have K105 : Keep h0 T105.heap [] := K104.trans K105q (allS (P := fun x => x ∈ [] ∨ h0.size ≤ x) (Or.inr sz_b104) all0)
    have Z105 : n0 ≤ T105.heap.size := (Nat.le_trans Z104 K105q.1)
    obtain ⟨_, _, ⟨T106, L106, k106, n106⟩, -, X106, ⟨Lc106, hQ106, l106, y106, z106⟩, st106⟩ := X105.specialBack hx (y := (⟨"com/example/gated_chorus/gatedchorus/limit/Kicks", "<init>", "(Lcom/example/gated_chorus/gatedchorus/limit/Ban;)V"⟩ : MethodName)) rfl hown (mvT hZ (hw _ (List.mem_of_getElem? (i := 23) rfl))) (mvT hZ (hw _ (List.mem_of_getElem? (i := 24) rfl))) (mvT hZ (hw _ (List.mem_of_getElem? (i := 25) rfl))) (by decide) (backOf (W := 1) (rm_4 l Z a0 hw [] b103 b104 (1 : Int32) (1 : Int32) F_ tu T105.heap n0 Z105 ((A103.ext E104).keep K105q) ((F_kicks_b103.ext E104).keep K105q (ninS (Nat.ne_of_lt (Nat.lt_of_lt_of_le A103.lt (Nat.le_of_eq g104.symm))) nin0)) ((F_withinNanos_b103.ext E104).keep K105q (ninS (Nat.ne_of_lt (Nat.lt_of_lt_of_le A103.lt (Nat.le_of_eq g104.symm))) nin0)) ((F_forNanos_b103.ext E104).keep K105q (ninS (Nat.ne_of_lt (Nat.lt_of_lt_of_le A103.lt (Nat.le_of_eq g104.symm))) nin0)) ((F_times_b103.ext E104).keep K105q (ninS (Nat.ne_of_lt (Nat.lt_of_lt_of_le A103.lt (Nat.le_of_eq g104.symm))) nin0)) ((F_banned_b103.ext E104).keep K105q (ninS (Nat.ne_of_lt (Nat.lt_of_lt_of_le A103.lt (Nat.le_of_eq g104.symm))) nin0)) ((F_bannedUntil_b103.ext E104).keep K105q (ninS (Nat.ne_of_lt (Nat.lt_of_lt_of_le A103.lt (Nat.le_of_eq g104.symm))) nin0)) g_b103 E105q Fk105q Fw105q Ff105q (own_staKeep S_ms K105 ns0) (E_tu.keep K105) (F_s.keep K105 nin0) (F_m.keep K105 nin0)) hZ (hw _ (List.mem_of_getElem? (i := 25) rfl)) (hw _ (List.mem_of_getElem? (i := 7) rfl)) (by decide) (by decide)) (g := (mkF m 46 #[.val (.long x0), .second, .val (.long x1), .second, .val (.long x2), .second, .val (.int x3), .val (.int x4), .val (.int (x4 &&& (3 : Int32))), .val (.int F_), .val (.int (1 : Int32)), .unset, .unset, .unset, .unset, .unset, .unset, .unset, .unset, .unset, .unset, .unset, .unset] [(.ref b104), (.ref b103), (.ref b103)])) rfl (by rw [hml]; rfl) (Steps.refl _) (a := b103) (argsL := [(.ref b104)]) (rest := [(.ref b103)]) (lenOf pd__Lcom_example_gated_chorus_gatedchorus_limit_Ban__V rfl) rfl (by show 2 * 0 + _ ≤ _; exact Nat.le_of_eq rfl) (hb hby at_46) (fun _ _ => ⟨rfl, rfl, (by decide : 2 + 2 ≤ _), (by decide : 9 + 20 ≤ _)⟩)
    dsimp only [Pt.U, Pt.locs, Pt.cells, Pt.slots] at X106 l106 y106 z106 st106 hQ106
    subst l106 y106 z106
    obtain ⟨rfl, N106q, K106q, E106q, F0106q, F1106q, F2106q, F3106q, d106, ea106, kk106, hd106, he106, hde106, Ft106x, Ed106q, Fe106q, Fh106q, Ft106q, Va106q, Ov106q⟩ := hQ106
    have N106 := Fr.app N105 N106q
    have K106 : Keep h0 T106.heap [] := K105.trans K106q (allS (P := fun x => x ∈ [] ∨ h0.size ≤ x) (Or.inr sz_b103) all0)
    have Z106 : n0 ≤ T106.heap.size := (Nat.le_trans Z105 K106q.1)
    have had : b103 ≠ d106 := Nat.ne_of_lt (Nat.lt_of_lt_of_le (((A103.ext E104).keep K105q)).lt hd106)
    have hae : b103 ≠ ea106 := Nat.ne_of_lt (Nat.lt_of_lt_of_le (((A103.ext E104).keep K105q)).lt he106)
    have g_d106 : n0 ≤ d106 := Nat.le_trans Z105 hd106
    have sz_d106 : h0.size ≤ d106 := Nat.le_trans K105.1 hd106
    have g_ea106 : n0 ≤ ea106 := Nat.le_trans Z105 he106
    have sz_ea106 : h0.size ≤ ea106 := Nat.le_trans K105.1 he106
    have pw107 : ∀ t, Steps p.tables e below (T106.setTop (mkF m 69 #[.val (.long x0), .second, .val (.long x1), .second, .val (.long x2), .second, .val (.int x3), .val (.int x4), .val (.int (x4 &&& (3 : Int32))), .val (.int F_), .val (.int (1 : Int32)), .val (.ref b103), .val (.long (x1 &&& (9223372036854775807 : Int64))), .second, .val (.long (x2 &&& (9223372036854775807 : Int64))), .second, .unset, .unset, .unset, .unset, .unset, .unset, .unset] [(.int (3 : Int32)), (.int (x4 &&& (3 : Int32)))])) t → Steps p.tables e below (s₁.setTop (entryFrame m #[(.long x0), (.long x1), (.long x2), (.int x3), (.int x4)] maxLocals)) t := by
      intro t k
      refine pw94 t ?_
      refine XS.icmpYes X93.here hx rfl (pc0 := 20) (pc' := 27) rfl (hb hby at_20) rfl (feq hc95).2 (by decide) (by decide) ?_
      show Steps p.tables e below (T93.setTop (mkF m 27 #[.val (.long x0), .second, .val (.long x1), .second, .val (.long x2), .second, .val (.int x3), .val (.int x4), .val (.int (x4 &&& (3 : Int32))), .val (.int F_), .unset, .unset, .unset, .unset, .unset, .unset, .unset, .unset, .unset, .unset, .unset, .unset, .unset] [])) _
      refine XS.iconst X93.here hx rfl (hb hby at_27) ?_
      show Steps p.tables e below (T93.setTop (mkF m 28 #[.val (.long x0), .second, .val (.long x1), .second, .val (.long x2), .second, .val (.int x3), .val (.int x4), .val (.int (x4 &&& (3 : Int32))), .val (.int F_), .unset, .unset, .unset, .unset, .unset, .unset, .unset, .unset, .unset, .unset, .unset, .unset, .unset] [(.int (1 : Int32))])) _
      refine XS.istore X93.here hx rfl (hb hby at_28) rfl (l' := #[.val (.long x0), .second, .val (.long x1), .second, .val (.long x2), .second, .val (.int x3), .val (.int x4), .val (.int (x4 &&& (3 : Int32))), .val (.int F_), .val (.int (1 : Int32)), .unset, .unset, .unset, .unset, .unset, .unset, .unset, .unset, .unset, .unset, .unset, .unset]) rfl ?_
      show Steps p.tables e below (T93.setTop (mkF m 30 #[.val (.long x0), .second, .val (.long x1), .second, .val (.long x2), .second, .val (.int x3), .val (.int x4), .val (.int (x4 &&& (3 : Int32))), .val (.int F_), .val (.int (1 : Int32)), .unset, .unset, .unset, .unset, .unset, .unset, .unset, .unset, .unset, .unset, .unset, .unset] [])) _
      refine st103 _ ?_
      show Steps p.tables e below (T103.setTop (mkF m 33 #[.val (.long x0), .second, .val (.long x1), .second, .val (.long x2), .second, .val (.int x3), .val (.int x4), .val (.int (x4 &&& (3 : Int32))), .val (.int F_), .val (.int (1 : Int32)), .unset, .unset, .unset, .unset, .unset, .unset, .unset, .unset, .unset, .unset, .unset, .unset] [(.ref b103)])) _
      refine XS.dup X103.here hx rfl (hb hby at_33) rfl rfl ?_
      show Steps p.tables e below (T103.setTop (mkF m 34 #[.val (.long x0), .second, .val (.long x1), .second, .val (.long x2), .second, .val (.int x3), .val (.int x4), .val (.int (x4 &&& (3 : Int32))), .val (.int F_), .val (.int (1 : Int32)), .unset, .unset, .unset, .unset, .unset, .unset, .unset, .unset, .unset, .unset, .unset, .unset] [(.ref b103), (.ref b103)])) _
      refine st104 _ ?_
      show Steps p.tables e below (T104.setTop (mkF m 37 #[.val (.long x0), .second, .val (.long x1), .second, .val (.long x2), .second, .val (.int x3), .val (.int x4), .val (.int (x4 &&& (3 : Int32))), .val (.int F_), .val (.int (1 : Int32)), .unset, .unset, .unset, .unset, .unset, .unset, .unset, .unset, .unset, .unset, .unset, .unset] [(.ref b104), (.ref b103), (.ref b103)])) _
      refine XS.dup X104.here hx rfl (hb hby at_37) rfl rfl ?_
      show Steps p.tables e below (T104.setTop (mkF m 38 #[.val (.long x0), .second, .val (.long x1), .second, .val (.long x2), .second, .val (.int x3), .val (.int x4), .val (.int (x4 &&& (3 : Int32))), .val (.int F_), .val (.int (1 : Int32)), .unset, .unset, .unset, .unset, .unset, .unset, .unset, .unset, .unset, .unset, .unset, .unset] [(.ref b104), (.ref b104), (.ref b103), (.ref b103)])) _
      refine XS.iload X104.here hx rfl (hb hby at_38) rfl ?_
      show Steps p.tables e below (T104.setTop (mkF m 40 #[.val (.long x0), .second, .val (.long x1), .second, .val (.long x2), .second, .val (.int x3), .val (.int x4), .val (.int (x4 &&& (3 : Int32))), .val (.int F_), .val (.int (1 : Int32)), .unset, .unset, .unset, .unset, .unset, .unset, .unset, .unset, .unset, .unset, .unset, .unset] [(.int (1 : Int32)), (.ref b104), (.ref b104), (.ref b103), (.ref b103)])) _
      refine XS.iconst X104.here hx rfl (hb hby at_40) ?_
      show Steps p.tables e below (T104.setTop (mkF m 41 #[.val (.long x0), .second, .val (.long x1), .second, .val (.long x2), .second, .val (.int x3), .val (.int x4), .val (.int (x4 &&& (3 : Int32))), .val (.int F_), .val (.int (1 : Int32)), .unset, .unset, .unset, .unset, .unset, .unset, .unset, .unset, .unset, .unset, .unset, .unset] [(.int (1 : Int32)), (.int (1 : Int32)), (.ref b104), (.ref b104), (.ref b103), (.ref b103)])) _
      refine XS.iload X104.here hx rfl (hb hby at_41) rfl ?_
      show Steps p.tables e below (T104.setTop (mkF m 43 #[.val (.long x0), .second, .val (.long x1), .second, .val (.long x2), .second, .val (.int x3), .val (.int x4), .val (.int (x4 &&& (3 : Int32))), .val (.int F_), .val (.int (1 : Int32)), .unset, .unset, .unset, .unset, .unset, .unset, .unset, .unset, .unset, .unset, .unset, .unset] [(.int F_), (.int (1 : Int32)), (.int (1 : Int32)), (.ref b104), (.ref b104), (.ref b103), (.ref b103)])) _
      refine st105.trans ?_
      show Steps p.tables e below (T105.setTop (mkF m 46 #[.val (.long x0), .second, .val (.long x1), .second, .val (.long x2), .second, .val (.int x3), .val (.int x4), .val (.int (x4 &&& (3 : Int32))), .val (.int F_), .val (.int (1 : Int32)), .unset, .unset, .unset, .unset, .unset, .unset, .unset, .unset, .unset, .unset, .unset, .unset] [(.ref b104), (.ref b103), (.ref b103)])) _
      refine st106.trans ?_
      show Steps p.tables e below (T106.setTop (mkF m 49 #[.val (.long x0), .second, .val (.long x1), .second, .val (.long x2), .second, .val (.int x3), .val (.int x4), .val (.int (x4 &&& (3 : Int32))), .val (.int F_), .val (.int (1 : Int32)), .unset, .unset, .unset, .unset, .unset, .unset, .unset, .unset, .unset, .unset, .unset, .unset] [(.ref b103)])) _
      refine XS.astore X106.here hx rfl (hb hby at_49) rfl rfl (l' := #[.val (.long x0), .second, .val (.long x1), .second, .val (.long x2), .second, .val (.int x3), .val (.int x4), .val (.int (x4 &&& (3 : Int32))), .val (.int F_), .val (.int (1 : Int32)), .val (.ref b103), .unset, .unset, .unset, .unset, .unset, .unset, .unset, .unset, .unset, .unset, .unset]) rfl ?_
      show Steps p.tables e below (T106.setTop (mkF m 51 #[.val (.long x0), .second, .val (.long x1), .second, .val (.long x2), .second, .val (.int x3), .val (.int x4), .val (.int (x4 &&& (3 : Int32))), .val (.int F_), .val (.int (1 : Int32)), .val (.ref b103), .unset, .unset, .unset, .unset, .unset, .unset, .unset, .unset, .unset, .unset, .unset] [])) _
      refine XS.lloadN X106.here hx rfl (hb hby at_51) rfl ?_
      show Steps p.tables e below (T106.setTop (mkF m 52 #[.val (.long x0), .second, .val (.long x1), .second, .val (.long x2), .second, .val (.int x3), .val (.int x4), .val (.int (x4 &&& (3 : Int32))), .val (.int F_), .val (.int (1 : Int32)), .val (.ref b103), .unset, .unset, .unset, .unset, .unset, .unset, .unset, .unset, .unset, .unset, .unset] [(.long x1)])) _
      refine X106.ldc2Long hx hown (mvT hZ (hw _ (List.mem_of_getElem? (i := 78) rfl))) (g := (mkF m 52 #[.val (.long x0), .second, .val (.long x1), .second, .val (.long x2), .second, .val (.int x3), .val (.int x4), .val (.int (x4 &&& (3 : Int32))), .val (.int F_), .val (.int (1 : Int32)), .val (.ref b103), .unset, .unset, .unset, .unset, .unset, .unset, .unset, .unset, .unset, .unset, .unset] [(.long x1)])) rfl (hb hby at_52) _ ?_
      show Steps p.tables e below (T106.setTop (mkF m 55 #[.val (.long x0), .second, .val (.long x1), .second, .val (.long x2), .second, .val (.int x3), .val (.int x4), .val (.int (x4 &&& (3 : Int32))), .val (.int F_), .val (.int (1 : Int32)), .val (.ref b103), .unset, .unset, .unset, .unset, .unset, .unset, .unset, .unset, .unset, .unset, .unset] [(.long (9223372036854775807 : Int64)), (.long x1)])) _
      refine XS.land X106.here hx rfl (hb hby at_55) rfl ?_
      show Steps p.tables e below (T106.setTop (mkF m 56 #[.val (.long x0), .second, .val (.long x1), .second, .val (.long x2), .second, .val (.int x3), .val (.int x4), .val (.int (x4 &&& (3 : Int32))), .val (.int F_), .val (.int (1 : Int32)), .val (.ref b103), .unset, .unset, .unset, .unset, .unset, .unset, .unset, .unset, .unset, .unset, .unset] [(.long (x1 &&& (9223372036854775807 : Int64)))])) _
      refine XS.lstore X106.here hx rfl (hb hby at_56) rfl (l' := #[.val (.long x0), .second, .val (.long x1), .second, .val (.long x2), .second, .val (.int x3), .val (.int x4), .val (.int (x4 &&& (3 : Int32))), .val (.int F_), .val (.int (1 : Int32)), .val (.ref b103), .val (.long (x1 &&& (9223372036854775807 : Int64))), .second, .unset, .unset, .unset, .unset, .unset, .unset, .unset, .unset, .unset]) rfl ?_
      show Steps p.tables e below (T106.setTop (mkF m 58 #[.val (.long x0), .second, .val (.long x1), .second, .val (.long x2), .second, .val (.int x3), .val (.int x4), .val (.int (x4 &&& (3 : Int32))), .val (.int F_), .val (.int (1 : Int32)), .val (.ref b103), .val (.long (x1 &&& (9223372036854775807 : Int64))), .second, .unset, .unset, .unset, .unset, .unset, .unset, .unset, .unset, .unset] [])) _
      refine XS.lload X106.here hx rfl (hb hby at_58) rfl ?_
      show Steps p.tables e below (T106.setTop (mkF m 60 #[.val (.long x0), .second, .val (.long x1), .second, .val (.long x2), .second, .val (.int x3), .val (.int x4), .val (.int (x4 &&& (3 : Int32))), .val (.int F_), .val (.int (1 : Int32)), .val (.ref b103), .val (.long (x1 &&& (9223372036854775807 : Int64))), .second, .unset, .unset, .unset, .unset, .unset, .unset, .unset, .unset, .unset] [(.long x2)])) _
      refine X106.ldc2Long hx hown (mvT hZ (hw _ (List.mem_of_getElem? (i := 78) rfl))) (g := (mkF m 60 #[.val (.long x0), .second, .val (.long x1), .second, .val (.long x2), .second, .val (.int x3), .val (.int x4), .val (.int (x4 &&& (3 : Int32))), .val (.int F_), .val (.int (1 : Int32)), .val (.ref b103), .val (.long (x1 &&& (9223372036854775807 : Int64))), .second, .unset, .unset, .unset, .unset, .unset, .unset, .unset, .unset, .unset] [(.long x2)])) rfl (hb hby at_60) _ ?_
      show Steps p.tables e below (T106.setTop (mkF m 63 #[.val (.long x0), .second, .val (.long x1), .second, .val (.long x2), .second, .val (.int x3), .val (.int x4), .val (.int (x4 &&& (3 : Int32))), .val (.int F_), .val (.int (1 : Int32)), .val (.ref b103), .val (.long (x1 &&& (9223372036854775807 : Int64))), .second, .unset, .unset, .unset, .unset, .unset, .unset, .unset, .unset, .unset] [(.long (9223372036854775807 : Int64)), (.long x2)])) _
      refine XS.land X106.here hx rfl (hb hby at_63) rfl ?_
      show Steps p.tables e below (T106.setTop (mkF m 64 #[.val (.long x0), .second, .val (.long x1), .second, .val (.long x2), .second, .val (.int x3), .val (.int x4), .val (.int (x4 &&& (3 : Int32))), .val (.int F_), .val (.int (1 : Int32)), .val (.ref b103), .val (.long (x1 &&& (9223372036854775807 : Int64))), .second, .unset, .unset, .unset, .unset, .unset, .unset, .unset, .unset, .unset] [(.long (x2 &&& (9223372036854775807 : Int64)))])) _
      refine XS.lstore X106.here hx rfl (hb hby at_64) rfl (l' := #[.val (.long x0), .second, .val (.long x1), .second, .val (.long x2), .second, .val (.int x3), .val (.int x4), .val (.int (x4 &&& (3 : Int32))), .val (.int F_), .val (.int (1 : Int32)), .val (.ref b103), .val (.long (x1 &&& (9223372036854775807 : Int64))), .second, .val (.long (x2 &&& (9223372036854775807 : Int64))), .second, .unset, .unset, .unset, .unset, .unset, .unset, .unset]) rfl ?_
      show Steps p.tables e below (T106.setTop (mkF m 66 #[.val (.long x0), .second, .val (.long x1), .second, .val (.long x2), .second, .val (.int x3), .val (.int x4), .val (.int (x4 &&& (3 : Int32))), .val (.int F_), .val (.int (1 : Int32)), .val (.ref b103), .val (.long (x1 &&& (9223372036854775807 : Int64))), .second, .val (.long (x2 &&& (9223372036854775807 : Int64))), .second, .unset, .unset, .unset, .unset, .unset, .unset, .unset] [])) _
      refine XS.iload X106.here hx rfl (hb hby at_66) rfl ?_
      show Steps p.tables e below (T106.setTop (mkF m 68 #[.val (.long x0), .second, .val (.long x1), .second, .val (.long x2), .second, .val (.int x3), .val (.int x4), .val (.int (x4 &&& (3 : Int32))), .val (.int F_), .val (.int (1 : Int32)), .val (.ref b103), .val (.long (x1 &&& (9223372036854775807 : Int64))), .second, .val (.long (x2 &&& (9223372036854775807 : Int64))), .second, .unset, .unset, .unset, .unset, .unset, .unset, .unset] [(.int (x4 &&& (3 : Int32)))])) _
      refine XS.iconst X106.here hx rfl (hb hby at_68) ?_
      show Steps p.tables e below (T106.setTop (mkF m 69 #[.val (.long x0), .second, .val (.long x1), .second, .val (.long x2), .second, .val (.int x3), .val (.int x4), .val (.int (x4 &&& (3 : Int32))), .val (.int F_), .val (.int (1 : Int32)), .val (.ref b103), .val (.long (x1 &&& (9223372036854775807 : Int64))), .second, .val (.long (x2 &&& (9223372036854775807 : Int64))), .second, .unset, .unset, .unset, .unset, .unset, .unset, .unset] [(.int (3 : Int32)), (.int (x4 &&& (3 : Int32)))])) _
      exact k
    by_cases hc108 : (x4 &&& (3 : Int32)) = (3 : Int32)
    · skip
      have hca109 : ∀ j : Int32, ¬ (j < 0 ∨ cl.slots.size ≤ j.toNatClampNeg) → ∃ b, cl.slots[j.toNatClampNeg]? = some (.ref b) ∧ Exa Z T106.heap b "java/lang/Long" := fun j hj => by obtain ⟨b, q1, q2⟩ := hcache j hj; exact ⟨b, q1, q2.keep K106⟩
      obtain ⟨cq110, kq110, q110a, q110b, q110c⟩ := isOf hZ rfl E106q
      obtain ⟨_, _, ⟨T110, L110, k110, n110⟩, -, X110, ⟨Lc110, hQ110, l110, y110, z110⟩, st110⟩ := X106.virtualBack hx (y := (⟨"com/example/gated_chorus/gatedchorus/limit/Kicks", "kick", "(J)Z"⟩ : MethodName)) (z := (⟨"com/example/gated_chorus/gatedchorus/limit/Kicks", "kick", "(J)Z"⟩ : MethodName)) hown (mvT hZ (hw _ (List.mem_of_getElem? (i := 79) rfl))) (mvT hZ (hw _ (List.mem_of_getElem? (i := 80) rfl))) (notFace_of_selects (args := #[]) (mvT hZ (hw _ (List.mem_of_getElem? (i := 82) rfl)))) (mvT hZ (hw _ (List.mem_of_getElem? (i := 82) rfl))) (mvT hZ (hw _ (List.mem_of_getElem? (i := 81) rfl))) (by decide) (backOf (W := 0) (rm_11a l Z a0 hw [] b103 x0 ((F_.toInt64) * (1000000 : Int64)) (0 : Int32) (0 : Int64) d106 ea106 kk106 cl ca T106.heap n0 Z106 E106q F0106q F1106q F2106q F3106q Ft106x Ed106q Fe106q Fh106q Ft106q Va106q Ov106q g_b103 g_d106 g_ea106 hde106 had hae (own_staKeep S_c K106 ns0) (own_arrKeep Ar_c K106) hsz hca109) hZ (hw _ (List.mem_of_getElem? (i := 83) rfl)) (hw _ (List.mem_of_getElem? (i := 7) rfl)) (by decide) (by decide)) q110a q110c (g := (mkF m 90 #[.val (.long x0), .second, .val (.long x1), .second, .val (.long x2), .second, .val (.int x3), .val (.int x4), .val (.int (x4 &&& (3 : Int32))), .val (.int F_), .val (.int (1 : Int32)), .val (.ref b103), .val (.long (x1 &&& (9223372036854775807 : Int64))), .second, .val (.long (x2 &&& (9223372036854775807 : Int64))), .second, .val (.long (x0 + (x1 &&& (9223372036854775807 : Int64)))), .second, .unset, .unset, .unset, .unset, .unset] [(.long x0), (.ref b103)])) rfl (by rw [hml]; rfl) (Steps.refl _) (argsL := [(.long x0)]) (rest := []) (lenOf pd__J_Z rfl) rfl (by show 2 * 0 + _ ≤ _; exact Nat.le_of_eq rfl) (hb hby at_90) (fun _ _ => ⟨rfl, rfl, (by decide : 4 + 1 ≤ _), (by decide : 29 + 1 ≤ _)⟩)
      dsimp only [Pt.U, Pt.locs, Pt.cells, Pt.slots] at X110 l110 y110 z110 st110 hQ110
      subst l110 y110 z110
      obtain ⟨rfl, N110q, K110q, E110q, F0110q, F1110q, F2110q, F3110q, Ft110x, Ed110q, Fe110q, Fh110q, Ft110q, Va110q⟩ := hQ110
      have N110 := Fr.app N106 N110q
      have K110 : Keep h0 T110.heap [] := K106.trans K110q (allS (P := fun x => x ∈ [] ∨ h0.size ≤ x) (Or.inr sz_b103) (allS (P := fun x => x ∈ [] ∨ h0.size ≤ x) (Or.inr sz_d106) (allS (P := fun x => x ∈ [] ∨ h0.size ≤ x) (Or.inr sz_ea106) all0)))
      have Z110 : n0 ≤ T110.heap.size := (Nat.le_trans Z106 K110q.1)
      have hca111 : ∀ j : Int32, ¬ (j < 0 ∨ cl.slots.size ≤ j.toNatClampNeg) → ∃ b, cl.slots[j.toNatClampNeg]? = some (.ref b) ∧ Exa Z T110.heap b "java/lang/Long" := fun j hj => by obtain ⟨b, q1, q2⟩ := hcache j hj; exact ⟨b, q1, q2.keep K110⟩
      obtain ⟨cq112, kq112, q112a, q112b, q112c⟩ := isOf hZ rfl E110q
      obtain ⟨_, _, ⟨T112, L112, k112, n112⟩, -, X112, ⟨Lc112, hQ112, l112, y112, z112⟩, st112⟩ := X110.virtualBack hx (y := (⟨"com/example/gated_chorus/gatedchorus/limit/Kicks", "kick", "(J)Z"⟩ : MethodName)) (z := (⟨"com/example/gated_chorus/gatedchorus/limit/Kicks", "kick", "(J)Z"⟩ : MethodName)) hown (mvT hZ (hw _ (List.mem_of_getElem? (i := 79) rfl))) (mvT hZ (hw _ (List.mem_of_getElem? (i := 80) rfl))) (notFace_of_selects (args := #[]) (mvT hZ (hw _ (List.mem_of_getElem? (i := 82) rfl)))) (mvT hZ (hw _ (List.mem_of_getElem? (i := 82) rfl))) (mvT hZ (hw _ (List.mem_of_getElem? (i := 81) rfl))) (by decide) (backOf (W := 0) (rm_11a l Z a0 hw [] b103 (x0 + (x1 &&& (9223372036854775807 : Int64))) ((F_.toInt64) * (1000000 : Int64)) (1 : Int32) (x0 + ((F_.toInt64) * (1000000 : Int64))) d106 ea106 kk106 cl ca T110.heap n0 Z110 E110q F0110q F1110q F2110q F3110q Ft110x Ed110q Fe110q Fh110q Ft110q Va110q Ov106q g_b103 g_d106 g_ea106 hde106 had hae (own_staKeep S_c K110 ns0) (own_arrKeep Ar_c K110) hsz hca111) hZ (hw _ (List.mem_of_getElem? (i := 83) rfl)) (hw _ (List.mem_of_getElem? (i := 7) rfl)) (by decide) (by decide)) q112a q112c (g := (mkF m 106 #[.val (.long x0), .second, .val (.long x1), .second, .val (.long x2), .second, .val (.int x3), .val (.int x4), .val (.int (x4 &&& (3 : Int32))), .val (.int F_), .val (.int (1 : Int32)), .val (.ref b103), .val (.long (x1 &&& (9223372036854775807 : Int64))), .second, .val (.long (x2 &&& (9223372036854775807 : Int64))), .second, .val (.long (x0 + (x1 &&& (9223372036854775807 : Int64)))), .second, .unset, .unset, .unset, .unset, .unset] [(.long (x0 + (x1 &&& (9223372036854775807 : Int64)))), (.ref b103)])) rfl (by rw [hml]; rfl) (Steps.refl _) (argsL := [(.long (x0 + (x1 &&& (9223372036854775807 : Int64))))]) (rest := []) (lenOf pd__J_Z rfl) rfl (by show 2 * 0 + _ ≤ _; exact Nat.le_of_eq rfl) (hb hby at_106) (fun _ _ => ⟨rfl, rfl, (by decide : 5 + 1 ≤ _), (by decide : 30 + 1 ≤ _)⟩)
      dsimp only [Pt.U, Pt.locs, Pt.cells, Pt.slots] at X112 l112 y112 z112 st112 hQ112
      subst l112 y112 z112
      obtain ⟨rfl, N112q, K112q, E112q, F0112q, F1112q, F2112q, F3112q, Ft112x, Ed112q, Fe112q, Fh112q, Ft112q, Va112q⟩ := hQ112
      have N112 := Fr.app N110 N112q
      have K112 : Keep h0 T112.heap [] := K110.trans K112q (allS (P := fun x => x ∈ [] ∨ h0.size ≤ x) (Or.inr sz_b103) (allS (P := fun x => x ∈ [] ∨ h0.size ≤ x) (Or.inr sz_d106) (allS (P := fun x => x ∈ [] ∨ h0.size ≤ x) (Or.inr sz_ea106) all0)))
      have Z112 : n0 ≤ T112.heap.size := (Nat.le_trans Z110 K112q.1)
      have pw113 : ∀ t, Steps p.tables e below (T112.setTop (mkF m 143 #[.val (.long x0), .second, .val (.long x1), .second, .val (.long x2), .second, .val (.int x3), .val (.int x4), .val (.int (x4 &&& (3 : Int32))), .val (.int F_), .val (.int (1 : Int32)), .val (.ref b103), .val (.long (x1 &&& (9223372036854775807 : Int64))), .second, .val (.long (x2 &&& (9223372036854775807 : Int64))), .second, .val (.long (x0 + (x1 &&& (9223372036854775807 : Int64)))), .second, .val (.long ((x0 + (x1 &&& (9223372036854775807 : Int64))) + (x2 &&& (9223372036854775807 : Int64)))), .second, .val (.long ((F_.toInt64) * (1000000 : Int64))), .second, .unset] [(.int (lcmpW (x2 &&& (9223372036854775807 : Int64)) ((F_.toInt64) * (1000000 : Int64))))])) t → Steps p.tables e below (s₁.setTop (entryFrame m #[(.long x0), (.long x1), (.long x2), (.int x3), (.int x4)] maxLocals)) t := by
        intro t k
        refine pw107 t ?_
        refine XS.icmpNo X106.here hx rfl (hb hby at_69) rfl (teq hc108).2 ?_
        show Steps p.tables e below (T106.setTop (mkF m 72 #[.val (.long x0), .second, .val (.long x1), .second, .val (.long x2), .second, .val (.int x3), .val (.int x4), .val (.int (x4 &&& (3 : Int32))), .val (.int F_), .val (.int (1 : Int32)), .val (.ref b103), .val (.long (x1 &&& (9223372036854775807 : Int64))), .second, .val (.long (x2 &&& (9223372036854775807 : Int64))), .second, .unset, .unset, .unset, .unset, .unset, .unset, .unset] [])) _
        refine XS.lloadN X106.here hx rfl (hb hby at_72) rfl ?_
        show Steps p.tables e below (T106.setTop (mkF m 73 #[.val (.long x0), .second, .val (.long x1), .second, .val (.long x2), .second, .val (.int x3), .val (.int x4), .val (.int (x4 &&& (3 : Int32))), .val (.int F_), .val (.int (1 : Int32)), .val (.ref b103), .val (.long (x1 &&& (9223372036854775807 : Int64))), .second, .val (.long (x2 &&& (9223372036854775807 : Int64))), .second, .unset, .unset, .unset, .unset, .unset, .unset, .unset] [(.long x0)])) _
        refine XS.lload X106.here hx rfl (hb hby at_73) rfl ?_
        show Steps p.tables e below (T106.setTop (mkF m 75 #[.val (.long x0), .second, .val (.long x1), .second, .val (.long x2), .second, .val (.int x3), .val (.int x4), .val (.int (x4 &&& (3 : Int32))), .val (.int F_), .val (.int (1 : Int32)), .val (.ref b103), .val (.long (x1 &&& (9223372036854775807 : Int64))), .second, .val (.long (x2 &&& (9223372036854775807 : Int64))), .second, .unset, .unset, .unset, .unset, .unset, .unset, .unset] [(.long (x1 &&& (9223372036854775807 : Int64))), (.long x0)])) _
        refine XS.ladd X106.here hx rfl (hb hby at_75) rfl ?_
        show Steps p.tables e below (T106.setTop (mkF m 76 #[.val (.long x0), .second, .val (.long x1), .second, .val (.long x2), .second, .val (.int x3), .val (.int x4), .val (.int (x4 &&& (3 : Int32))), .val (.int F_), .val (.int (1 : Int32)), .val (.ref b103), .val (.long (x1 &&& (9223372036854775807 : Int64))), .second, .val (.long (x2 &&& (9223372036854775807 : Int64))), .second, .unset, .unset, .unset, .unset, .unset, .unset, .unset] [(.long (x0 + (x1 &&& (9223372036854775807 : Int64))))])) _
        refine XS.goto X106.here hx rfl (pc0 := 76) (pc' := 80) rfl (hb hby at_76) (by decide) (by decide) ?_
        show Steps p.tables e below (T106.setTop (mkF m 80 #[.val (.long x0), .second, .val (.long x1), .second, .val (.long x2), .second, .val (.int x3), .val (.int x4), .val (.int (x4 &&& (3 : Int32))), .val (.int F_), .val (.int (1 : Int32)), .val (.ref b103), .val (.long (x1 &&& (9223372036854775807 : Int64))), .second, .val (.long (x2 &&& (9223372036854775807 : Int64))), .second, .unset, .unset, .unset, .unset, .unset, .unset, .unset] [(.long (x0 + (x1 &&& (9223372036854775807 : Int64))))])) _
        refine XS.lstore X106.here hx rfl (hb hby at_80) rfl (l' := #[.val (.long x0), .second, .val (.long x1), .second, .val (.long x2), .second, .val (.int x3), .val (.int x4), .val (.int (x4 &&& (3 : Int32))), .val (.int F_), .val (.int (1 : Int32)), .val (.ref b103), .val (.long (x1 &&& (9223372036854775807 : Int64))), .second, .val (.long (x2 &&& (9223372036854775807 : Int64))), .second, .val (.long (x0 + (x1 &&& (9223372036854775807 : Int64)))), .second, .unset, .unset, .unset, .unset, .unset]) rfl ?_
        show Steps p.tables e below (T106.setTop (mkF m 82 #[.val (.long x0), .second, .val (.long x1), .second, .val (.long x2), .second, .val (.int x3), .val (.int x4), .val (.int (x4 &&& (3 : Int32))), .val (.int F_), .val (.int (1 : Int32)), .val (.ref b103), .val (.long (x1 &&& (9223372036854775807 : Int64))), .second, .val (.long (x2 &&& (9223372036854775807 : Int64))), .second, .val (.long (x0 + (x1 &&& (9223372036854775807 : Int64)))), .second, .unset, .unset, .unset, .unset, .unset] [])) _
        refine XS.iload X106.here hx rfl (hb hby at_82) rfl ?_
        show Steps p.tables e below (T106.setTop (mkF m 84 #[.val (.long x0), .second, .val (.long x1), .second, .val (.long x2), .second, .val (.int x3), .val (.int x4), .val (.int (x4 &&& (3 : Int32))), .val (.int F_), .val (.int (1 : Int32)), .val (.ref b103), .val (.long (x1 &&& (9223372036854775807 : Int64))), .second, .val (.long (x2 &&& (9223372036854775807 : Int64))), .second, .val (.long (x0 + (x1 &&& (9223372036854775807 : Int64)))), .second, .unset, .unset, .unset, .unset, .unset] [(.int (x4 &&& (3 : Int32)))])) _
        refine XS.ifNo X106.here hx rfl (hb hby at_84) rfl ((if0 _ _).trans (feq (fun q => absurd (hc108.symm.trans q) (by decide) : ¬ ((x4 &&& (3 : Int32)) = (0 : Int32)))).1) ?_
        show Steps p.tables e below (T106.setTop (mkF m 87 #[.val (.long x0), .second, .val (.long x1), .second, .val (.long x2), .second, .val (.int x3), .val (.int x4), .val (.int (x4 &&& (3 : Int32))), .val (.int F_), .val (.int (1 : Int32)), .val (.ref b103), .val (.long (x1 &&& (9223372036854775807 : Int64))), .second, .val (.long (x2 &&& (9223372036854775807 : Int64))), .second, .val (.long (x0 + (x1 &&& (9223372036854775807 : Int64)))), .second, .unset, .unset, .unset, .unset, .unset] [])) _
        refine XS.aload X106.here hx rfl (hb hby at_87) rfl rfl ?_
        show Steps p.tables e below (T106.setTop (mkF m 89 #[.val (.long x0), .second, .val (.long x1), .second, .val (.long x2), .second, .val (.int x3), .val (.int x4), .val (.int (x4 &&& (3 : Int32))), .val (.int F_), .val (.int (1 : Int32)), .val (.ref b103), .val (.long (x1 &&& (9223372036854775807 : Int64))), .second, .val (.long (x2 &&& (9223372036854775807 : Int64))), .second, .val (.long (x0 + (x1 &&& (9223372036854775807 : Int64)))), .second, .unset, .unset, .unset, .unset, .unset] [(.ref b103)])) _
        refine XS.lloadN X106.here hx rfl (hb hby at_89) rfl ?_
        show Steps p.tables e below (T106.setTop (mkF m 90 #[.val (.long x0), .second, .val (.long x1), .second, .val (.long x2), .second, .val (.int x3), .val (.int x4), .val (.int (x4 &&& (3 : Int32))), .val (.int F_), .val (.int (1 : Int32)), .val (.ref b103), .val (.long (x1 &&& (9223372036854775807 : Int64))), .second, .val (.long (x2 &&& (9223372036854775807 : Int64))), .second, .val (.long (x0 + (x1 &&& (9223372036854775807 : Int64)))), .second, .unset, .unset, .unset, .unset, .unset] [(.long x0), (.ref b103)])) _
        refine st110.trans ?_
        show Steps p.tables e below (T110.setTop (mkF m 93 #[.val (.long x0), .second, .val (.long x1), .second, .val (.long x2), .second, .val (.int x3), .val (.int x4), .val (.int (x4 &&& (3 : Int32))), .val (.int F_), .val (.int (1 : Int32)), .val (.ref b103), .val (.long (x1 &&& (9223372036854775807 : Int64))), .second, .val (.long (x2 &&& (9223372036854775807 : Int64))), .second, .val (.long (x0 + (x1 &&& (9223372036854775807 : Int64)))), .second, .unset, .unset, .unset, .unset, .unset] [(.int (1 : Int32))])) _
        refine XS.pop X110.here hx rfl (hb hby at_93) rfl rfl ?_
        show Steps p.tables e below (T110.setTop (mkF m 94 #[.val (.long x0), .second, .val (.long x1), .second, .val (.long x2), .second, .val (.int x3), .val (.int x4), .val (.int (x4 &&& (3 : Int32))), .val (.int F_), .val (.int (1 : Int32)), .val (.ref b103), .val (.long (x1 &&& (9223372036854775807 : Int64))), .second, .val (.long (x2 &&& (9223372036854775807 : Int64))), .second, .val (.long (x0 + (x1 &&& (9223372036854775807 : Int64)))), .second, .unset, .unset, .unset, .unset, .unset] [])) _
        refine XS.iload X110.here hx rfl (hb hby at_94) rfl ?_
        show Steps p.tables e below (T110.setTop (mkF m 96 #[.val (.long x0), .second, .val (.long x1), .second, .val (.long x2), .second, .val (.int x3), .val (.int x4), .val (.int (x4 &&& (3 : Int32))), .val (.int F_), .val (.int (1 : Int32)), .val (.ref b103), .val (.long (x1 &&& (9223372036854775807 : Int64))), .second, .val (.long (x2 &&& (9223372036854775807 : Int64))), .second, .val (.long (x0 + (x1 &&& (9223372036854775807 : Int64)))), .second, .unset, .unset, .unset, .unset, .unset] [(.int (x4 &&& (3 : Int32)))])) _
        refine XS.iconst X110.here hx rfl (hb hby at_96) ?_
        show Steps p.tables e below (T110.setTop (mkF m 97 #[.val (.long x0), .second, .val (.long x1), .second, .val (.long x2), .second, .val (.int x3), .val (.int x4), .val (.int (x4 &&& (3 : Int32))), .val (.int F_), .val (.int (1 : Int32)), .val (.ref b103), .val (.long (x1 &&& (9223372036854775807 : Int64))), .second, .val (.long (x2 &&& (9223372036854775807 : Int64))), .second, .val (.long (x0 + (x1 &&& (9223372036854775807 : Int64)))), .second, .unset, .unset, .unset, .unset, .unset] [(.int (3 : Int32)), (.int (x4 &&& (3 : Int32)))])) _
        refine XS.icmpNo X110.here hx rfl (hb hby at_97) rfl (teq hc108).2 ?_
        show Steps p.tables e below (T110.setTop (mkF m 100 #[.val (.long x0), .second, .val (.long x1), .second, .val (.long x2), .second, .val (.int x3), .val (.int x4), .val (.int (x4 &&& (3 : Int32))), .val (.int F_), .val (.int (1 : Int32)), .val (.ref b103), .val (.long (x1 &&& (9223372036854775807 : Int64))), .second, .val (.long (x2 &&& (9223372036854775807 : Int64))), .second, .val (.long (x0 + (x1 &&& (9223372036854775807 : Int64)))), .second, .unset, .unset, .unset, .unset, .unset] [])) _
        refine XS.aload X110.here hx rfl (hb hby at_100) rfl rfl ?_
        show Steps p.tables e below (T110.setTop (mkF m 102 #[.val (.long x0), .second, .val (.long x1), .second, .val (.long x2), .second, .val (.int x3), .val (.int x4), .val (.int (x4 &&& (3 : Int32))), .val (.int F_), .val (.int (1 : Int32)), .val (.ref b103), .val (.long (x1 &&& (9223372036854775807 : Int64))), .second, .val (.long (x2 &&& (9223372036854775807 : Int64))), .second, .val (.long (x0 + (x1 &&& (9223372036854775807 : Int64)))), .second, .unset, .unset, .unset, .unset, .unset] [(.ref b103)])) _
        refine XS.lloadN X110.here hx rfl (hb hby at_102) rfl ?_
        show Steps p.tables e below (T110.setTop (mkF m 103 #[.val (.long x0), .second, .val (.long x1), .second, .val (.long x2), .second, .val (.int x3), .val (.int x4), .val (.int (x4 &&& (3 : Int32))), .val (.int F_), .val (.int (1 : Int32)), .val (.ref b103), .val (.long (x1 &&& (9223372036854775807 : Int64))), .second, .val (.long (x2 &&& (9223372036854775807 : Int64))), .second, .val (.long (x0 + (x1 &&& (9223372036854775807 : Int64)))), .second, .unset, .unset, .unset, .unset, .unset] [(.long x0), (.ref b103)])) _
        refine XS.lload X110.here hx rfl (hb hby at_103) rfl ?_
        show Steps p.tables e below (T110.setTop (mkF m 105 #[.val (.long x0), .second, .val (.long x1), .second, .val (.long x2), .second, .val (.int x3), .val (.int x4), .val (.int (x4 &&& (3 : Int32))), .val (.int F_), .val (.int (1 : Int32)), .val (.ref b103), .val (.long (x1 &&& (9223372036854775807 : Int64))), .second, .val (.long (x2 &&& (9223372036854775807 : Int64))), .second, .val (.long (x0 + (x1 &&& (9223372036854775807 : Int64)))), .second, .unset, .unset, .unset, .unset, .unset] [(.long (x1 &&& (9223372036854775807 : Int64))), (.long x0), (.ref b103)])) _
        refine XS.ladd X110.here hx rfl (hb hby at_105) rfl ?_
        show Steps p.tables e below (T110.setTop (mkF m 106 #[.val (.long x0), .second, .val (.long x1), .second, .val (.long x2), .second, .val (.int x3), .val (.int x4), .val (.int (x4 &&& (3 : Int32))), .val (.int F_), .val (.int (1 : Int32)), .val (.ref b103), .val (.long (x1 &&& (9223372036854775807 : Int64))), .second, .val (.long (x2 &&& (9223372036854775807 : Int64))), .second, .val (.long (x0 + (x1 &&& (9223372036854775807 : Int64)))), .second, .unset, .unset, .unset, .unset, .unset] [(.long (x0 + (x1 &&& (9223372036854775807 : Int64)))), (.ref b103)])) _
        refine st112.trans ?_
        show Steps p.tables e below (T112.setTop (mkF m 109 #[.val (.long x0), .second, .val (.long x1), .second, .val (.long x2), .second, .val (.int x3), .val (.int x4), .val (.int (x4 &&& (3 : Int32))), .val (.int F_), .val (.int (1 : Int32)), .val (.ref b103), .val (.long (x1 &&& (9223372036854775807 : Int64))), .second, .val (.long (x2 &&& (9223372036854775807 : Int64))), .second, .val (.long (x0 + (x1 &&& (9223372036854775807 : Int64)))), .second, .unset, .unset, .unset, .unset, .unset] [(.int (1 : Int32))])) _
        refine XS.pop X112.here hx rfl (hb hby at_109) rfl rfl ?_
        show Steps p.tables e below (T112.setTop (mkF m 110 #[.val (.long x0), .second, .val (.long x1), .second, .val (.long x2), .second, .val (.int x3), .val (.int x4), .val (.int (x4 &&& (3 : Int32))), .val (.int F_), .val (.int (1 : Int32)), .val (.ref b103), .val (.long (x1 &&& (9223372036854775807 : Int64))), .second, .val (.long (x2 &&& (9223372036854775807 : Int64))), .second, .val (.long (x0 + (x1 &&& (9223372036854775807 : Int64)))), .second, .unset, .unset, .unset, .unset, .unset] [])) _
        refine XS.lload X112.here hx rfl (hb hby at_110) rfl ?_
        show Steps p.tables e below (T112.setTop (mkF m 112 #[.val (.long x0), .second, .val (.long x1), .second, .val (.long x2), .second, .val (.int x3), .val (.int x4), .val (.int (x4 &&& (3 : Int32))), .val (.int F_), .val (.int (1 : Int32)), .val (.ref b103), .val (.long (x1 &&& (9223372036854775807 : Int64))), .second, .val (.long (x2 &&& (9223372036854775807 : Int64))), .second, .val (.long (x0 + (x1 &&& (9223372036854775807 : Int64)))), .second, .unset, .unset, .unset, .unset, .unset] [(.long (x0 + (x1 &&& (9223372036854775807 : Int64))))])) _
        refine XS.lload X112.here hx rfl (hb hby at_112) rfl ?_
        show Steps p.tables e below (T112.setTop (mkF m 114 #[.val (.long x0), .second, .val (.long x1), .second, .val (.long x2), .second, .val (.int x3), .val (.int x4), .val (.int (x4 &&& (3 : Int32))), .val (.int F_), .val (.int (1 : Int32)), .val (.ref b103), .val (.long (x1 &&& (9223372036854775807 : Int64))), .second, .val (.long (x2 &&& (9223372036854775807 : Int64))), .second, .val (.long (x0 + (x1 &&& (9223372036854775807 : Int64)))), .second, .unset, .unset, .unset, .unset, .unset] [(.long (x2 &&& (9223372036854775807 : Int64))), (.long (x0 + (x1 &&& (9223372036854775807 : Int64))))])) _
        refine XS.ladd X112.here hx rfl (hb hby at_114) rfl ?_
        show Steps p.tables e below (T112.setTop (mkF m 115 #[.val (.long x0), .second, .val (.long x1), .second, .val (.long x2), .second, .val (.int x3), .val (.int x4), .val (.int (x4 &&& (3 : Int32))), .val (.int F_), .val (.int (1 : Int32)), .val (.ref b103), .val (.long (x1 &&& (9223372036854775807 : Int64))), .second, .val (.long (x2 &&& (9223372036854775807 : Int64))), .second, .val (.long (x0 + (x1 &&& (9223372036854775807 : Int64)))), .second, .unset, .unset, .unset, .unset, .unset] [(.long ((x0 + (x1 &&& (9223372036854775807 : Int64))) + (x2 &&& (9223372036854775807 : Int64))))])) _
        refine XS.lstore X112.here hx rfl (hb hby at_115) rfl (l' := #[.val (.long x0), .second, .val (.long x1), .second, .val (.long x2), .second, .val (.int x3), .val (.int x4), .val (.int (x4 &&& (3 : Int32))), .val (.int F_), .val (.int (1 : Int32)), .val (.ref b103), .val (.long (x1 &&& (9223372036854775807 : Int64))), .second, .val (.long (x2 &&& (9223372036854775807 : Int64))), .second, .val (.long (x0 + (x1 &&& (9223372036854775807 : Int64)))), .second, .val (.long ((x0 + (x1 &&& (9223372036854775807 : Int64))) + (x2 &&& (9223372036854775807 : Int64)))), .second, .unset, .unset, .unset]) rfl ?_
        show Steps p.tables e below (T112.setTop (mkF m 117 #[.val (.long x0), .second, .val (.long x1), .second, .val (.long x2), .second, .val (.int x3), .val (.int x4), .val (.int (x4 &&& (3 : Int32))), .val (.int F_), .val (.int (1 : Int32)), .val (.ref b103), .val (.long (x1 &&& (9223372036854775807 : Int64))), .second, .val (.long (x2 &&& (9223372036854775807 : Int64))), .second, .val (.long (x0 + (x1 &&& (9223372036854775807 : Int64)))), .second, .val (.long ((x0 + (x1 &&& (9223372036854775807 : Int64))) + (x2 &&& (9223372036854775807 : Int64)))), .second, .unset, .unset, .unset] [])) _
        refine XS.iload X112.here hx rfl (hb hby at_117) rfl ?_
        show Steps p.tables e below (T112.setTop (mkF m 119 #[.val (.long x0), .second, .val (.long x1), .second, .val (.long x2), .second, .val (.int x3), .val (.int x4), .val (.int (x4 &&& (3 : Int32))), .val (.int F_), .val (.int (1 : Int32)), .val (.ref b103), .val (.long (x1 &&& (9223372036854775807 : Int64))), .second, .val (.long (x2 &&& (9223372036854775807 : Int64))), .second, .val (.long (x0 + (x1 &&& (9223372036854775807 : Int64)))), .second, .val (.long ((x0 + (x1 &&& (9223372036854775807 : Int64))) + (x2 &&& (9223372036854775807 : Int64)))), .second, .unset, .unset, .unset] [(.int F_)])) _
        refine XS.i2l X112.here hx rfl (hb hby at_119) rfl ?_
        show Steps p.tables e below (T112.setTop (mkF m 120 #[.val (.long x0), .second, .val (.long x1), .second, .val (.long x2), .second, .val (.int x3), .val (.int x4), .val (.int (x4 &&& (3 : Int32))), .val (.int F_), .val (.int (1 : Int32)), .val (.ref b103), .val (.long (x1 &&& (9223372036854775807 : Int64))), .second, .val (.long (x2 &&& (9223372036854775807 : Int64))), .second, .val (.long (x0 + (x1 &&& (9223372036854775807 : Int64)))), .second, .val (.long ((x0 + (x1 &&& (9223372036854775807 : Int64))) + (x2 &&& (9223372036854775807 : Int64)))), .second, .unset, .unset, .unset] [(.long (F_.toInt64))])) _
        refine X112.ldc2Long hx hown (mvT hZ (hw _ (List.mem_of_getElem? (i := 143) rfl))) (g := (mkF m 120 #[.val (.long x0), .second, .val (.long x1), .second, .val (.long x2), .second, .val (.int x3), .val (.int x4), .val (.int (x4 &&& (3 : Int32))), .val (.int F_), .val (.int (1 : Int32)), .val (.ref b103), .val (.long (x1 &&& (9223372036854775807 : Int64))), .second, .val (.long (x2 &&& (9223372036854775807 : Int64))), .second, .val (.long (x0 + (x1 &&& (9223372036854775807 : Int64)))), .second, .val (.long ((x0 + (x1 &&& (9223372036854775807 : Int64))) + (x2 &&& (9223372036854775807 : Int64)))), .second, .unset, .unset, .unset] [(.long (F_.toInt64))])) rfl (hb hby at_120) _ ?_
        show Steps p.tables e below (T112.setTop (mkF m 123 #[.val (.long x0), .second, .val (.long x1), .second, .val (.long x2), .second, .val (.int x3), .val (.int x4), .val (.int (x4 &&& (3 : Int32))), .val (.int F_), .val (.int (1 : Int32)), .val (.ref b103), .val (.long (x1 &&& (9223372036854775807 : Int64))), .second, .val (.long (x2 &&& (9223372036854775807 : Int64))), .second, .val (.long (x0 + (x1 &&& (9223372036854775807 : Int64)))), .second, .val (.long ((x0 + (x1 &&& (9223372036854775807 : Int64))) + (x2 &&& (9223372036854775807 : Int64)))), .second, .unset, .unset, .unset] [(.long (1000000 : Int64)), (.long (F_.toInt64))])) _
        refine XS.lmul X112.here hx rfl (hb hby at_123) rfl ?_
        show Steps p.tables e below (T112.setTop (mkF m 124 #[.val (.long x0), .second, .val (.long x1), .second, .val (.long x2), .second, .val (.int x3), .val (.int x4), .val (.int (x4 &&& (3 : Int32))), .val (.int F_), .val (.int (1 : Int32)), .val (.ref b103), .val (.long (x1 &&& (9223372036854775807 : Int64))), .second, .val (.long (x2 &&& (9223372036854775807 : Int64))), .second, .val (.long (x0 + (x1 &&& (9223372036854775807 : Int64)))), .second, .val (.long ((x0 + (x1 &&& (9223372036854775807 : Int64))) + (x2 &&& (9223372036854775807 : Int64)))), .second, .unset, .unset, .unset] [(.long ((F_.toInt64) * (1000000 : Int64)))])) _
        refine XS.lstore X112.here hx rfl (hb hby at_124) rfl (l' := #[.val (.long x0), .second, .val (.long x1), .second, .val (.long x2), .second, .val (.int x3), .val (.int x4), .val (.int (x4 &&& (3 : Int32))), .val (.int F_), .val (.int (1 : Int32)), .val (.ref b103), .val (.long (x1 &&& (9223372036854775807 : Int64))), .second, .val (.long (x2 &&& (9223372036854775807 : Int64))), .second, .val (.long (x0 + (x1 &&& (9223372036854775807 : Int64)))), .second, .val (.long ((x0 + (x1 &&& (9223372036854775807 : Int64))) + (x2 &&& (9223372036854775807 : Int64)))), .second, .val (.long ((F_.toInt64) * (1000000 : Int64))), .second, .unset]) rfl ?_
        show Steps p.tables e below (T112.setTop (mkF m 126 #[.val (.long x0), .second, .val (.long x1), .second, .val (.long x2), .second, .val (.int x3), .val (.int x4), .val (.int (x4 &&& (3 : Int32))), .val (.int F_), .val (.int (1 : Int32)), .val (.ref b103), .val (.long (x1 &&& (9223372036854775807 : Int64))), .second, .val (.long (x2 &&& (9223372036854775807 : Int64))), .second, .val (.long (x0 + (x1 &&& (9223372036854775807 : Int64)))), .second, .val (.long ((x0 + (x1 &&& (9223372036854775807 : Int64))) + (x2 &&& (9223372036854775807 : Int64)))), .second, .val (.long ((F_.toInt64) * (1000000 : Int64))), .second, .unset] [])) _
        refine XS.iload X112.here hx rfl (hb hby at_126) rfl ?_
        show Steps p.tables e below (T112.setTop (mkF m 128 #[.val (.long x0), .second, .val (.long x1), .second, .val (.long x2), .second, .val (.int x3), .val (.int x4), .val (.int (x4 &&& (3 : Int32))), .val (.int F_), .val (.int (1 : Int32)), .val (.ref b103), .val (.long (x1 &&& (9223372036854775807 : Int64))), .second, .val (.long (x2 &&& (9223372036854775807 : Int64))), .second, .val (.long (x0 + (x1 &&& (9223372036854775807 : Int64)))), .second, .val (.long ((x0 + (x1 &&& (9223372036854775807 : Int64))) + (x2 &&& (9223372036854775807 : Int64)))), .second, .val (.long ((F_.toInt64) * (1000000 : Int64))), .second, .unset] [(.int (x4 &&& (3 : Int32)))])) _
        refine XS.iconst X112.here hx rfl (hb hby at_128) ?_
        show Steps p.tables e below (T112.setTop (mkF m 129 #[.val (.long x0), .second, .val (.long x1), .second, .val (.long x2), .second, .val (.int x3), .val (.int x4), .val (.int (x4 &&& (3 : Int32))), .val (.int F_), .val (.int (1 : Int32)), .val (.ref b103), .val (.long (x1 &&& (9223372036854775807 : Int64))), .second, .val (.long (x2 &&& (9223372036854775807 : Int64))), .second, .val (.long (x0 + (x1 &&& (9223372036854775807 : Int64)))), .second, .val (.long ((x0 + (x1 &&& (9223372036854775807 : Int64))) + (x2 &&& (9223372036854775807 : Int64)))), .second, .val (.long ((F_.toInt64) * (1000000 : Int64))), .second, .unset] [(.int (1 : Int32)), (.int (x4 &&& (3 : Int32)))])) _
        refine XS.icmpNo X112.here hx rfl (hb hby at_129) rfl (feq (fun q => absurd (hc108.symm.trans q) (by decide) : ¬ ((x4 &&& (3 : Int32)) = (1 : Int32)))).1 ?_
        show Steps p.tables e below (T112.setTop (mkF m 132 #[.val (.long x0), .second, .val (.long x1), .second, .val (.long x2), .second, .val (.int x3), .val (.int x4), .val (.int (x4 &&& (3 : Int32))), .val (.int F_), .val (.int (1 : Int32)), .val (.ref b103), .val (.long (x1 &&& (9223372036854775807 : Int64))), .second, .val (.long (x2 &&& (9223372036854775807 : Int64))), .second, .val (.long (x0 + (x1 &&& (9223372036854775807 : Int64)))), .second, .val (.long ((x0 + (x1 &&& (9223372036854775807 : Int64))) + (x2 &&& (9223372036854775807 : Int64)))), .second, .val (.long ((F_.toInt64) * (1000000 : Int64))), .second, .unset] [])) _
        refine XS.iload X112.here hx rfl (hb hby at_132) rfl ?_
        show Steps p.tables e below (T112.setTop (mkF m 134 #[.val (.long x0), .second, .val (.long x1), .second, .val (.long x2), .second, .val (.int x3), .val (.int x4), .val (.int (x4 &&& (3 : Int32))), .val (.int F_), .val (.int (1 : Int32)), .val (.ref b103), .val (.long (x1 &&& (9223372036854775807 : Int64))), .second, .val (.long (x2 &&& (9223372036854775807 : Int64))), .second, .val (.long (x0 + (x1 &&& (9223372036854775807 : Int64)))), .second, .val (.long ((x0 + (x1 &&& (9223372036854775807 : Int64))) + (x2 &&& (9223372036854775807 : Int64)))), .second, .val (.long ((F_.toInt64) * (1000000 : Int64))), .second, .unset] [(.int (x4 &&& (3 : Int32)))])) _
        refine XS.iconst X112.here hx rfl (hb hby at_134) ?_
        show Steps p.tables e below (T112.setTop (mkF m 135 #[.val (.long x0), .second, .val (.long x1), .second, .val (.long x2), .second, .val (.int x3), .val (.int x4), .val (.int (x4 &&& (3 : Int32))), .val (.int F_), .val (.int (1 : Int32)), .val (.ref b103), .val (.long (x1 &&& (9223372036854775807 : Int64))), .second, .val (.long (x2 &&& (9223372036854775807 : Int64))), .second, .val (.long (x0 + (x1 &&& (9223372036854775807 : Int64)))), .second, .val (.long ((x0 + (x1 &&& (9223372036854775807 : Int64))) + (x2 &&& (9223372036854775807 : Int64)))), .second, .val (.long ((F_.toInt64) * (1000000 : Int64))), .second, .unset] [(.int (3 : Int32)), (.int (x4 &&& (3 : Int32)))])) _
        refine XS.icmpNo X112.here hx rfl (hb hby at_135) rfl (teq hc108).2 ?_
        show Steps p.tables e below (T112.setTop (mkF m 138 #[.val (.long x0), .second, .val (.long x1), .second, .val (.long x2), .second, .val (.int x3), .val (.int x4), .val (.int (x4 &&& (3 : Int32))), .val (.int F_), .val (.int (1 : Int32)), .val (.ref b103), .val (.long (x1 &&& (9223372036854775807 : Int64))), .second, .val (.long (x2 &&& (9223372036854775807 : Int64))), .second, .val (.long (x0 + (x1 &&& (9223372036854775807 : Int64)))), .second, .val (.long ((x0 + (x1 &&& (9223372036854775807 : Int64))) + (x2 &&& (9223372036854775807 : Int64)))), .second, .val (.long ((F_.toInt64) * (1000000 : Int64))), .second, .unset] [])) _
        refine XS.lload X112.here hx rfl (hb hby at_138) rfl ?_
        show Steps p.tables e below (T112.setTop (mkF m 140 #[.val (.long x0), .second, .val (.long x1), .second, .val (.long x2), .second, .val (.int x3), .val (.int x4), .val (.int (x4 &&& (3 : Int32))), .val (.int F_), .val (.int (1 : Int32)), .val (.ref b103), .val (.long (x1 &&& (9223372036854775807 : Int64))), .second, .val (.long (x2 &&& (9223372036854775807 : Int64))), .second, .val (.long (x0 + (x1 &&& (9223372036854775807 : Int64)))), .second, .val (.long ((x0 + (x1 &&& (9223372036854775807 : Int64))) + (x2 &&& (9223372036854775807 : Int64)))), .second, .val (.long ((F_.toInt64) * (1000000 : Int64))), .second, .unset] [(.long (x2 &&& (9223372036854775807 : Int64)))])) _
        refine XS.lload X112.here hx rfl (hb hby at_140) rfl ?_
        show Steps p.tables e below (T112.setTop (mkF m 142 #[.val (.long x0), .second, .val (.long x1), .second, .val (.long x2), .second, .val (.int x3), .val (.int x4), .val (.int (x4 &&& (3 : Int32))), .val (.int F_), .val (.int (1 : Int32)), .val (.ref b103), .val (.long (x1 &&& (9223372036854775807 : Int64))), .second, .val (.long (x2 &&& (9223372036854775807 : Int64))), .second, .val (.long (x0 + (x1 &&& (9223372036854775807 : Int64)))), .second, .val (.long ((x0 + (x1 &&& (9223372036854775807 : Int64))) + (x2 &&& (9223372036854775807 : Int64)))), .second, .val (.long ((F_.toInt64) * (1000000 : Int64))), .second, .unset] [(.long ((F_.toInt64) * (1000000 : Int64))), (.long (x2 &&& (9223372036854775807 : Int64)))])) _
        refine XS.lcmp X112.here hx rfl (hb hby at_142) rfl ?_
        show Steps p.tables e below (T112.setTop (mkF m 143 #[.val (.long x0), .second, .val (.long x1), .second, .val (.long x2), .second, .val (.int x3), .val (.int x4), .val (.int (x4 &&& (3 : Int32))), .val (.int F_), .val (.int (1 : Int32)), .val (.ref b103), .val (.long (x1 &&& (9223372036854775807 : Int64))), .second, .val (.long (x2 &&& (9223372036854775807 : Int64))), .second, .val (.long (x0 + (x1 &&& (9223372036854775807 : Int64)))), .second, .val (.long ((x0 + (x1 &&& (9223372036854775807 : Int64))) + (x2 &&& (9223372036854775807 : Int64)))), .second, .val (.long ((F_.toInt64) * (1000000 : Int64))), .second, .unset] [(.int (lcmpW (x2 &&& (9223372036854775807 : Int64)) ((F_.toInt64) * (1000000 : Int64))))])) _
        exact k
      by_cases hc114 : (x2 &&& (9223372036854775807 : Int64)) < ((F_.toInt64) * (1000000 : Int64))
      · skip
        obtain ⟨cq115, kq115, q115a, q115b, q115c⟩ := isOf hZ rfl E112q
        obtain ⟨_, _, ⟨T115, L115, k115, n115⟩, -, X115, ⟨Lc115, hQ115, l115, y115, z115⟩, st115⟩ := X112.virtualBack hx (y := (⟨"com/example/gated_chorus/gatedchorus/limit/Kicks", "isBanned", "(J)Z"⟩ : MethodName)) (z := (⟨"com/example/gated_chorus/gatedchorus/limit/Kicks", "isBanned", "(J)Z"⟩ : MethodName)) hown (mvT hZ (hw _ (List.mem_of_getElem? (i := 144) rfl))) (mvT hZ (hw _ (List.mem_of_getElem? (i := 145) rfl))) (notFace_of_selects (args := #[]) (mvT hZ (hw _ (List.mem_of_getElem? (i := 147) rfl)))) (mvT hZ (hw _ (List.mem_of_getElem? (i := 147) rfl))) (mvT hZ (hw _ (List.mem_of_getElem? (i := 146) rfl))) (by decide) (backOf (W := 0) (rm_20o l Z a0 hw [] b103 ((x0 + (x1 &&& (9223372036854775807 : Int64))) + (x2 &&& (9223372036854775807 : Int64))) ((x0 + (x1 &&& (9223372036854775807 : Int64))) + ((F_.toInt64) * (1000000 : Int64))) (1 : Int32) T112.heap n0 Z112 F2112q F3112q (if_pos ((own_cmp (x0 + (x1 &&& (9223372036854775807 : Int64))) (x2 &&& (9223372036854775807 : Int64)) ((F_.toInt64) * (1000000 : Int64)) hel hfn0 hfn1).2 hc114))) hZ (hw _ (List.mem_of_getElem? (i := 148) rfl)) (hw _ (List.mem_of_getElem? (i := 7) rfl)) (by decide) (by decide)) q115a q115c (g := (mkF m 157 #[.val (.long x0), .second, .val (.long x1), .second, .val (.long x2), .second, .val (.int x3), .val (.int x4), .val (.int (x4 &&& (3 : Int32))), .val (.int F_), .val (.int (1 : Int32)), .val (.ref b103), .val (.long (x1 &&& (9223372036854775807 : Int64))), .second, .val (.long (x2 &&& (9223372036854775807 : Int64))), .second, .val (.long (x0 + (x1 &&& (9223372036854775807 : Int64)))), .second, .val (.long ((x0 + (x1 &&& (9223372036854775807 : Int64))) + (x2 &&& (9223372036854775807 : Int64)))), .second, .val (.long ((F_.toInt64) * (1000000 : Int64))), .second, .val (.int (1 : Int32))] [(.long ((x0 + (x1 &&& (9223372036854775807 : Int64))) + (x2 &&& (9223372036854775807 : Int64)))), (.ref b103)])) rfl (by rw [hml]; rfl) (Steps.refl _) (argsL := [(.long ((x0 + (x1 &&& (9223372036854775807 : Int64))) + (x2 &&& (9223372036854775807 : Int64))))]) (rest := []) (lenOf pd__J_Z rfl) rfl (by show 2 * 0 + _ ≤ _; exact Nat.le_of_eq rfl) (hb hby at_157) (fun _ _ => ⟨rfl, rfl, (by decide : 6 + 0 ≤ _), (by decide : 31 + 0 ≤ _)⟩)
        dsimp only [Pt.U, Pt.locs, Pt.cells, Pt.slots] at X115 l115 y115 z115 st115 hQ115
        subst l115 y115 z115
        obtain ⟨rfl, N115q, e115q⟩ := hQ115
        have N115 := Fr.app N112 N115q
        obtain ⟨fs, hr, hrun, hended, hW, hsame⟩ := X115.leave (v := some (.int (1 : Int32))) (fun h => by rw [Bd.returns] at h; cases h)
        refine ⟨_, _, pw113 _ ?_, hrun, hended, _, _, rfl, ?_, ⟨_, rfl⟩, hW, hsame.mono (by decide) (by decide)⟩
        · skip
          refine XS.ifNo X112.here hx rfl (hb hby at_143) rfl ((if0 _ _).trans (tlt ((lw_lt (x2 &&& (9223372036854775807 : Int64)) ((F_.toInt64) * (1000000 : Int64))).2 hc114)).2.1) ?_
          show Steps p.tables e below (T112.setTop (mkF m 146 #[.val (.long x0), .second, .val (.long x1), .second, .val (.long x2), .second, .val (.int x3), .val (.int x4), .val (.int (x4 &&& (3 : Int32))), .val (.int F_), .val (.int (1 : Int32)), .val (.ref b103), .val (.long (x1 &&& (9223372036854775807 : Int64))), .second, .val (.long (x2 &&& (9223372036854775807 : Int64))), .second, .val (.long (x0 + (x1 &&& (9223372036854775807 : Int64)))), .second, .val (.long ((x0 + (x1 &&& (9223372036854775807 : Int64))) + (x2 &&& (9223372036854775807 : Int64)))), .second, .val (.long ((F_.toInt64) * (1000000 : Int64))), .second, .unset] [])) _
          refine XS.iconst X112.here hx rfl (hb hby at_146) ?_
          show Steps p.tables e below (T112.setTop (mkF m 147 #[.val (.long x0), .second, .val (.long x1), .second, .val (.long x2), .second, .val (.int x3), .val (.int x4), .val (.int (x4 &&& (3 : Int32))), .val (.int F_), .val (.int (1 : Int32)), .val (.ref b103), .val (.long (x1 &&& (9223372036854775807 : Int64))), .second, .val (.long (x2 &&& (9223372036854775807 : Int64))), .second, .val (.long (x0 + (x1 &&& (9223372036854775807 : Int64)))), .second, .val (.long ((x0 + (x1 &&& (9223372036854775807 : Int64))) + (x2 &&& (9223372036854775807 : Int64)))), .second, .val (.long ((F_.toInt64) * (1000000 : Int64))), .second, .unset] [(.int (1 : Int32))])) _
          refine XS.goto X112.here hx rfl (pc0 := 147) (pc' := 151) rfl (hb hby at_147) (by decide) (by decide) ?_
          show Steps p.tables e below (T112.setTop (mkF m 151 #[.val (.long x0), .second, .val (.long x1), .second, .val (.long x2), .second, .val (.int x3), .val (.int x4), .val (.int (x4 &&& (3 : Int32))), .val (.int F_), .val (.int (1 : Int32)), .val (.ref b103), .val (.long (x1 &&& (9223372036854775807 : Int64))), .second, .val (.long (x2 &&& (9223372036854775807 : Int64))), .second, .val (.long (x0 + (x1 &&& (9223372036854775807 : Int64)))), .second, .val (.long ((x0 + (x1 &&& (9223372036854775807 : Int64))) + (x2 &&& (9223372036854775807 : Int64)))), .second, .val (.long ((F_.toInt64) * (1000000 : Int64))), .second, .unset] [(.int (1 : Int32))])) _
          refine XS.istore X112.here hx rfl (hb hby at_151) rfl (l' := #[.val (.long x0), .second, .val (.long x1), .second, .val (.long x2), .second, .val (.int x3), .val (.int x4), .val (.int (x4 &&& (3 : Int32))), .val (.int F_), .val (.int (1 : Int32)), .val (.ref b103), .val (.long (x1 &&& (9223372036854775807 : Int64))), .second, .val (.long (x2 &&& (9223372036854775807 : Int64))), .second, .val (.long (x0 + (x1 &&& (9223372036854775807 : Int64)))), .second, .val (.long ((x0 + (x1 &&& (9223372036854775807 : Int64))) + (x2 &&& (9223372036854775807 : Int64)))), .second, .val (.long ((F_.toInt64) * (1000000 : Int64))), .second, .val (.int (1 : Int32))]) rfl ?_
          show Steps p.tables e below (T112.setTop (mkF m 153 #[.val (.long x0), .second, .val (.long x1), .second, .val (.long x2), .second, .val (.int x3), .val (.int x4), .val (.int (x4 &&& (3 : Int32))), .val (.int F_), .val (.int (1 : Int32)), .val (.ref b103), .val (.long (x1 &&& (9223372036854775807 : Int64))), .second, .val (.long (x2 &&& (9223372036854775807 : Int64))), .second, .val (.long (x0 + (x1 &&& (9223372036854775807 : Int64)))), .second, .val (.long ((x0 + (x1 &&& (9223372036854775807 : Int64))) + (x2 &&& (9223372036854775807 : Int64)))), .second, .val (.long ((F_.toInt64) * (1000000 : Int64))), .second, .val (.int (1 : Int32))] [])) _
          refine XS.aload X112.here hx rfl (hb hby at_153) rfl rfl ?_
          show Steps p.tables e below (T112.setTop (mkF m 155 #[.val (.long x0), .second, .val (.long x1), .second, .val (.long x2), .second, .val (.int x3), .val (.int x4), .val (.int (x4 &&& (3 : Int32))), .val (.int F_), .val (.int (1 : Int32)), .val (.ref b103), .val (.long (x1 &&& (9223372036854775807 : Int64))), .second, .val (.long (x2 &&& (9223372036854775807 : Int64))), .second, .val (.long (x0 + (x1 &&& (9223372036854775807 : Int64)))), .second, .val (.long ((x0 + (x1 &&& (9223372036854775807 : Int64))) + (x2 &&& (9223372036854775807 : Int64)))), .second, .val (.long ((F_.toInt64) * (1000000 : Int64))), .second, .val (.int (1 : Int32))] [(.ref b103)])) _
          refine XS.lload X112.here hx rfl (hb hby at_155) rfl ?_
          show Steps p.tables e below (T112.setTop (mkF m 157 #[.val (.long x0), .second, .val (.long x1), .second, .val (.long x2), .second, .val (.int x3), .val (.int x4), .val (.int (x4 &&& (3 : Int32))), .val (.int F_), .val (.int (1 : Int32)), .val (.ref b103), .val (.long (x1 &&& (9223372036854775807 : Int64))), .second, .val (.long (x2 &&& (9223372036854775807 : Int64))), .second, .val (.long (x0 + (x1 &&& (9223372036854775807 : Int64)))), .second, .val (.long ((x0 + (x1 &&& (9223372036854775807 : Int64))) + (x2 &&& (9223372036854775807 : Int64)))), .second, .val (.long ((F_.toInt64) * (1000000 : Int64))), .second, .val (.int (1 : Int32))] [(.long ((x0 + (x1 &&& (9223372036854775807 : Int64))) + (x2 &&& (9223372036854775807 : Int64)))), (.ref b103)])) _
          refine st115.trans ?_
          show Steps p.tables e below (T115.setTop (mkF m 160 #[.val (.long x0), .second, .val (.long x1), .second, .val (.long x2), .second, .val (.int x3), .val (.int x4), .val (.int (x4 &&& (3 : Int32))), .val (.int F_), .val (.int (1 : Int32)), .val (.ref b103), .val (.long (x1 &&& (9223372036854775807 : Int64))), .second, .val (.long (x2 &&& (9223372036854775807 : Int64))), .second, .val (.long (x0 + (x1 &&& (9223372036854775807 : Int64)))), .second, .val (.long ((x0 + (x1 &&& (9223372036854775807 : Int64))) + (x2 &&& (9223372036854775807 : Int64)))), .second, .val (.long ((F_.toInt64) * (1000000 : Int64))), .second, .val (.int (1 : Int32))] [(.int (1 : Int32))])) _
          refine XS.iload X115.here hx rfl (hb hby at_160) rfl ?_
          show Steps p.tables e below (T115.setTop (mkF m 162 #[.val (.long x0), .second, .val (.long x1), .second, .val (.long x2), .second, .val (.int x3), .val (.int x4), .val (.int (x4 &&& (3 : Int32))), .val (.int F_), .val (.int (1 : Int32)), .val (.ref b103), .val (.long (x1 &&& (9223372036854775807 : Int64))), .second, .val (.long (x2 &&& (9223372036854775807 : Int64))), .second, .val (.long (x0 + (x1 &&& (9223372036854775807 : Int64)))), .second, .val (.long ((x0 + (x1 &&& (9223372036854775807 : Int64))) + (x2 &&& (9223372036854775807 : Int64)))), .second, .val (.long ((F_.toInt64) * (1000000 : Int64))), .second, .val (.int (1 : Int32))] [(.int (1 : Int32)), (.int (1 : Int32))])) _
          refine XS.icmpNo X115.here hx rfl (hb hby at_162) rfl (teq (by decide : (1 : Int32) = (1 : Int32))).2 ?_
          show Steps p.tables e below (T115.setTop (mkF m 165 #[.val (.long x0), .second, .val (.long x1), .second, .val (.long x2), .second, .val (.int x3), .val (.int x4), .val (.int (x4 &&& (3 : Int32))), .val (.int F_), .val (.int (1 : Int32)), .val (.ref b103), .val (.long (x1 &&& (9223372036854775807 : Int64))), .second, .val (.long (x2 &&& (9223372036854775807 : Int64))), .second, .val (.long (x0 + (x1 &&& (9223372036854775807 : Int64)))), .second, .val (.long ((x0 + (x1 &&& (9223372036854775807 : Int64))) + (x2 &&& (9223372036854775807 : Int64)))), .second, .val (.long ((F_.toInt64) * (1000000 : Int64))), .second, .val (.int (1 : Int32))] [])) _
          refine XS.iconst X115.here hx rfl (hb hby at_165) ?_
          show Steps p.tables e below (T115.setTop (mkF m 166 #[.val (.long x0), .second, .val (.long x1), .second, .val (.long x2), .second, .val (.int x3), .val (.int x4), .val (.int (x4 &&& (3 : Int32))), .val (.int F_), .val (.int (1 : Int32)), .val (.ref b103), .val (.long (x1 &&& (9223372036854775807 : Int64))), .second, .val (.long (x2 &&& (9223372036854775807 : Int64))), .second, .val (.long (x0 + (x1 &&& (9223372036854775807 : Int64)))), .second, .val (.long ((x0 + (x1 &&& (9223372036854775807 : Int64))) + (x2 &&& (9223372036854775807 : Int64)))), .second, .val (.long ((F_.toInt64) * (1000000 : Int64))), .second, .val (.int (1 : Int32))] [(.int (1 : Int32))])) _
          refine XS.goto X115.here hx rfl (pc0 := 166) (pc' := 170) rfl (hb hby at_166) (by decide) (by decide) ?_
          show Steps p.tables e below (T115.setTop (mkF m 170 #[.val (.long x0), .second, .val (.long x1), .second, .val (.long x2), .second, .val (.int x3), .val (.int x4), .val (.int (x4 &&& (3 : Int32))), .val (.int F_), .val (.int (1 : Int32)), .val (.ref b103), .val (.long (x1 &&& (9223372036854775807 : Int64))), .second, .val (.long (x2 &&& (9223372036854775807 : Int64))), .second, .val (.long (x0 + (x1 &&& (9223372036854775807 : Int64)))), .second, .val (.long ((x0 + (x1 &&& (9223372036854775807 : Int64))) + (x2 &&& (9223372036854775807 : Int64)))), .second, .val (.long ((F_.toInt64) * (1000000 : Int64))), .second, .val (.int (1 : Int32))] [(.int (1 : Int32))])) _
          exact retN X115 hx (t := .boolean) Bd.returns (by simp) (hb hby at_170) hr
        · show Q_0 Z x0 x1 x2 x3 x4 F_ tu cl ca h0 n0 _ T115.heap _
          rw [e115q]
          exact ⟨rfl, N115⟩
      · skip
        obtain ⟨cq116, kq116, q116a, q116b, q116c⟩ := isOf hZ rfl E112q
        obtain ⟨_, _, ⟨T116, L116, k116, n116⟩, -, X116, ⟨Lc116, hQ116, l116, y116, z116⟩, st116⟩ := X112.virtualBack hx (y := (⟨"com/example/gated_chorus/gatedchorus/limit/Kicks", "isBanned", "(J)Z"⟩ : MethodName)) (z := (⟨"com/example/gated_chorus/gatedchorus/limit/Kicks", "isBanned", "(J)Z"⟩ : MethodName)) hown (mvT hZ (hw _ (List.mem_of_getElem? (i := 144) rfl))) (mvT hZ (hw _ (List.mem_of_getElem? (i := 145) rfl))) (notFace_of_selects (args := #[]) (mvT hZ (hw _ (List.mem_of_getElem? (i := 147) rfl)))) (mvT hZ (hw _ (List.mem_of_getElem? (i := 147) rfl))) (mvT hZ (hw _ (List.mem_of_getElem? (i := 146) rfl))) (by decide) (backOf (W := 0) (rm_20o l Z a0 hw [] b103 ((x0 + (x1 &&& (9223372036854775807 : Int64))) + (x2 &&& (9223372036854775807 : Int64))) ((x0 + (x1 &&& (9223372036854775807 : Int64))) + ((F_.toInt64) * (1000000 : Int64))) (0 : Int32) T112.heap n0 Z112 F2112q F3112q (if_neg (mt (own_cmp (x0 + (x1 &&& (9223372036854775807 : Int64))) (x2 &&& (9223372036854775807 : Int64)) ((F_.toInt64) * (1000000 : Int64)) hel hfn0 hfn1).1 hc114))) hZ (hw _ (List.mem_of_getElem? (i := 148) rfl)) (hw _ (List.mem_of_getElem? (i := 7) rfl)) (by decide) (by decide)) q116a q116c (g := (mkF m 157 #[.val (.long x0), .second, .val (.long x1), .second, .val (.long x2), .second, .val (.int x3), .val (.int x4), .val (.int (x4 &&& (3 : Int32))), .val (.int F_), .val (.int (1 : Int32)), .val (.ref b103), .val (.long (x1 &&& (9223372036854775807 : Int64))), .second, .val (.long (x2 &&& (9223372036854775807 : Int64))), .second, .val (.long (x0 + (x1 &&& (9223372036854775807 : Int64)))), .second, .val (.long ((x0 + (x1 &&& (9223372036854775807 : Int64))) + (x2 &&& (9223372036854775807 : Int64)))), .second, .val (.long ((F_.toInt64) * (1000000 : Int64))), .second, .val (.int (0 : Int32))] [(.long ((x0 + (x1 &&& (9223372036854775807 : Int64))) + (x2 &&& (9223372036854775807 : Int64)))), (.ref b103)])) rfl (by rw [hml]; rfl) (Steps.refl _) (argsL := [(.long ((x0 + (x1 &&& (9223372036854775807 : Int64))) + (x2 &&& (9223372036854775807 : Int64))))]) (rest := []) (lenOf pd__J_Z rfl) rfl (by show 2 * 0 + _ ≤ _; exact Nat.le_of_eq rfl) (hb hby at_157) (fun _ _ => ⟨rfl, rfl, (by decide : 6 + 0 ≤ _), (by decide : 31 + 0 ≤ _)⟩)
        dsimp only [Pt.U, Pt.locs, Pt.cells, Pt.slots] at X116 l116 y116 z116 st116 hQ116
        subst l116 y116 z116
        obtain ⟨rfl, N116q, e116q⟩ := hQ116
        have N116 := Fr.app N112 N116q
        obtain ⟨fs, hr, hrun, hended, hW, hsame⟩ := X116.leave (v := some (.int (1 : Int32))) (fun h => by rw [Bd.returns] at h; cases h)
        refine ⟨_, _, pw113 _ ?_, hrun, hended, _, _, rfl, ?_, ⟨_, rfl⟩, hW, hsame.mono (by decide) (by decide)⟩
        · skip
          refine XS.ifYes X112.here hx rfl (pc0 := 143) (pc' := 150) rfl (hb hby at_143) rfl ((if0 _ _).trans (flt (mt (lw_lt (x2 &&& (9223372036854775807 : Int64)) ((F_.toInt64) * (1000000 : Int64))).1 hc114)).2.1) (by decide) (by decide) ?_
          show Steps p.tables e below (T112.setTop (mkF m 150 #[.val (.long x0), .second, .val (.long x1), .second, .val (.long x2), .second, .val (.int x3), .val (.int x4), .val (.int (x4 &&& (3 : Int32))), .val (.int F_), .val (.int (1 : Int32)), .val (.ref b103), .val (.long (x1 &&& (9223372036854775807 : Int64))), .second, .val (.long (x2 &&& (9223372036854775807 : Int64))), .second, .val (.long (x0 + (x1 &&& (9223372036854775807 : Int64)))), .second, .val (.long ((x0 + (x1 &&& (9223372036854775807 : Int64))) + (x2 &&& (9223372036854775807 : Int64)))), .second, .val (.long ((F_.toInt64) * (1000000 : Int64))), .second, .unset] [])) _
          refine XS.iconst X112.here hx rfl (hb hby at_150) ?_
          show Steps p.tables e below (T112.setTop (mkF m 151 #[.val (.long x0), .second, .val (.long x1), .second, .val (.long x2), .second, .val (.int x3), .val (.int x4), .val (.int (x4 &&& (3 : Int32))), .val (.int F_), .val (.int (1 : Int32)), .val (.ref b103), .val (.long (x1 &&& (9223372036854775807 : Int64))), .second, .val (.long (x2 &&& (9223372036854775807 : Int64))), .second, .val (.long (x0 + (x1 &&& (9223372036854775807 : Int64)))), .second, .val (.long ((x0 + (x1 &&& (9223372036854775807 : Int64))) + (x2 &&& (9223372036854775807 : Int64)))), .second, .val (.long ((F_.toInt64) * (1000000 : Int64))), .second, .unset] [(.int (0 : Int32))])) _
          refine XS.istore X112.here hx rfl (hb hby at_151) rfl (l' := #[.val (.long x0), .second, .val (.long x1), .second, .val (.long x2), .second, .val (.int x3), .val (.int x4), .val (.int (x4 &&& (3 : Int32))), .val (.int F_), .val (.int (1 : Int32)), .val (.ref b103), .val (.long (x1 &&& (9223372036854775807 : Int64))), .second, .val (.long (x2 &&& (9223372036854775807 : Int64))), .second, .val (.long (x0 + (x1 &&& (9223372036854775807 : Int64)))), .second, .val (.long ((x0 + (x1 &&& (9223372036854775807 : Int64))) + (x2 &&& (9223372036854775807 : Int64)))), .second, .val (.long ((F_.toInt64) * (1000000 : Int64))), .second, .val (.int (0 : Int32))]) rfl ?_
          show Steps p.tables e below (T112.setTop (mkF m 153 #[.val (.long x0), .second, .val (.long x1), .second, .val (.long x2), .second, .val (.int x3), .val (.int x4), .val (.int (x4 &&& (3 : Int32))), .val (.int F_), .val (.int (1 : Int32)), .val (.ref b103), .val (.long (x1 &&& (9223372036854775807 : Int64))), .second, .val (.long (x2 &&& (9223372036854775807 : Int64))), .second, .val (.long (x0 + (x1 &&& (9223372036854775807 : Int64)))), .second, .val (.long ((x0 + (x1 &&& (9223372036854775807 : Int64))) + (x2 &&& (9223372036854775807 : Int64)))), .second, .val (.long ((F_.toInt64) * (1000000 : Int64))), .second, .val (.int (0 : Int32))] [])) _
          refine XS.aload X112.here hx rfl (hb hby at_153) rfl rfl ?_
          show Steps p.tables e below (T112.setTop (mkF m 155 #[.val (.long x0), .second, .val (.long x1), .second, .val (.long x2), .second, .val (.int x3), .val (.int x4), .val (.int (x4 &&& (3 : Int32))), .val (.int F_), .val (.int (1 : Int32)), .val (.ref b103), .val (.long (x1 &&& (9223372036854775807 : Int64))), .second, .val (.long (x2 &&& (9223372036854775807 : Int64))), .second, .val (.long (x0 + (x1 &&& (9223372036854775807 : Int64)))), .second, .val (.long ((x0 + (x1 &&& (9223372036854775807 : Int64))) + (x2 &&& (9223372036854775807 : Int64)))), .second, .val (.long ((F_.toInt64) * (1000000 : Int64))), .second, .val (.int (0 : Int32))] [(.ref b103)])) _
          refine XS.lload X112.here hx rfl (hb hby at_155) rfl ?_
          show Steps p.tables e below (T112.setTop (mkF m 157 #[.val (.long x0), .second, .val (.long x1), .second, .val (.long x2), .second, .val (.int x3), .val (.int x4), .val (.int (x4 &&& (3 : Int32))), .val (.int F_), .val (.int (1 : Int32)), .val (.ref b103), .val (.long (x1 &&& (9223372036854775807 : Int64))), .second, .val (.long (x2 &&& (9223372036854775807 : Int64))), .second, .val (.long (x0 + (x1 &&& (9223372036854775807 : Int64)))), .second, .val (.long ((x0 + (x1 &&& (9223372036854775807 : Int64))) + (x2 &&& (9223372036854775807 : Int64)))), .second, .val (.long ((F_.toInt64) * (1000000 : Int64))), .second, .val (.int (0 : Int32))] [(.long ((x0 + (x1 &&& (9223372036854775807 : Int64))) + (x2 &&& (9223372036854775807 : Int64)))), (.ref b103)])) _
          refine st116.trans ?_
          show Steps p.tables e below (T116.setTop (mkF m 160 #[.val (.long x0), .second, .val (.long x1), .second, .val (.long x2), .second, .val (.int x3), .val (.int x4), .val (.int (x4 &&& (3 : Int32))), .val (.int F_), .val (.int (1 : Int32)), .val (.ref b103), .val (.long (x1 &&& (9223372036854775807 : Int64))), .second, .val (.long (x2 &&& (9223372036854775807 : Int64))), .second, .val (.long (x0 + (x1 &&& (9223372036854775807 : Int64)))), .second, .val (.long ((x0 + (x1 &&& (9223372036854775807 : Int64))) + (x2 &&& (9223372036854775807 : Int64)))), .second, .val (.long ((F_.toInt64) * (1000000 : Int64))), .second, .val (.int (0 : Int32))] [(.int (0 : Int32))])) _
          refine XS.iload X116.here hx rfl (hb hby at_160) rfl ?_
          show Steps p.tables e below (T116.setTop (mkF m 162 #[.val (.long x0), .second, .val (.long x1), .second, .val (.long x2), .second, .val (.int x3), .val (.int x4), .val (.int (x4 &&& (3 : Int32))), .val (.int F_), .val (.int (1 : Int32)), .val (.ref b103), .val (.long (x1 &&& (9223372036854775807 : Int64))), .second, .val (.long (x2 &&& (9223372036854775807 : Int64))), .second, .val (.long (x0 + (x1 &&& (9223372036854775807 : Int64)))), .second, .val (.long ((x0 + (x1 &&& (9223372036854775807 : Int64))) + (x2 &&& (9223372036854775807 : Int64)))), .second, .val (.long ((F_.toInt64) * (1000000 : Int64))), .second, .val (.int (0 : Int32))] [(.int (0 : Int32)), (.int (0 : Int32))])) _
          refine XS.icmpNo X116.here hx rfl (hb hby at_162) rfl (teq (by decide : (0 : Int32) = (0 : Int32))).2 ?_
          show Steps p.tables e below (T116.setTop (mkF m 165 #[.val (.long x0), .second, .val (.long x1), .second, .val (.long x2), .second, .val (.int x3), .val (.int x4), .val (.int (x4 &&& (3 : Int32))), .val (.int F_), .val (.int (1 : Int32)), .val (.ref b103), .val (.long (x1 &&& (9223372036854775807 : Int64))), .second, .val (.long (x2 &&& (9223372036854775807 : Int64))), .second, .val (.long (x0 + (x1 &&& (9223372036854775807 : Int64)))), .second, .val (.long ((x0 + (x1 &&& (9223372036854775807 : Int64))) + (x2 &&& (9223372036854775807 : Int64)))), .second, .val (.long ((F_.toInt64) * (1000000 : Int64))), .second, .val (.int (0 : Int32))] [])) _
          refine XS.iconst X116.here hx rfl (hb hby at_165) ?_
          show Steps p.tables e below (T116.setTop (mkF m 166 #[.val (.long x0), .second, .val (.long x1), .second, .val (.long x2), .second, .val (.int x3), .val (.int x4), .val (.int (x4 &&& (3 : Int32))), .val (.int F_), .val (.int (1 : Int32)), .val (.ref b103), .val (.long (x1 &&& (9223372036854775807 : Int64))), .second, .val (.long (x2 &&& (9223372036854775807 : Int64))), .second, .val (.long (x0 + (x1 &&& (9223372036854775807 : Int64)))), .second, .val (.long ((x0 + (x1 &&& (9223372036854775807 : Int64))) + (x2 &&& (9223372036854775807 : Int64)))), .second, .val (.long ((F_.toInt64) * (1000000 : Int64))), .second, .val (.int (0 : Int32))] [(.int (1 : Int32))])) _
          refine XS.goto X116.here hx rfl (pc0 := 166) (pc' := 170) rfl (hb hby at_166) (by decide) (by decide) ?_
          show Steps p.tables e below (T116.setTop (mkF m 170 #[.val (.long x0), .second, .val (.long x1), .second, .val (.long x2), .second, .val (.int x3), .val (.int x4), .val (.int (x4 &&& (3 : Int32))), .val (.int F_), .val (.int (1 : Int32)), .val (.ref b103), .val (.long (x1 &&& (9223372036854775807 : Int64))), .second, .val (.long (x2 &&& (9223372036854775807 : Int64))), .second, .val (.long (x0 + (x1 &&& (9223372036854775807 : Int64)))), .second, .val (.long ((x0 + (x1 &&& (9223372036854775807 : Int64))) + (x2 &&& (9223372036854775807 : Int64)))), .second, .val (.long ((F_.toInt64) * (1000000 : Int64))), .second, .val (.int (0 : Int32))] [(.int (1 : Int32))])) _
          exact retN X116 hx (t := .boolean) Bd.returns (by simp) (hb hby at_170) hr
        · show Q_0 Z x0 x1 x2 x3 x4 F_ tu cl ca h0 n0 _ T116.heap _
          rw [e116q]
          exact ⟨rfl, N116⟩
    · skip
      have pw117 : ∀ t, Steps p.tables e below (T106.setTop (mkF m 84 #[.val (.long x0), .second, .val (.long x1), .second, .val (.long x2), .second, .val (.int x3), .val (.int x4), .val (.int (x4 &&& (3 : Int32))), .val (.int F_), .val (.int (1 : Int32)), .val (.ref b103), .val (.long (x1 &&& (9223372036854775807 : Int64))), .second, .val (.long (x2 &&& (9223372036854775807 : Int64))), .second, .val (.long x0), .second, .unset, .unset, .unset, .unset, .unset] [(.int (x4 &&& (3 : Int32)))])) t → Steps p.tables e below (s₁.setTop (entryFrame m #[(.long x0), (.long x1), (.long x2), (.int x3), (.int x4)] maxLocals)) t := by
        intro t k
        refine pw107 t ?_
        refine XS.icmpYes X106.here hx rfl (pc0 := 69) (pc' := 79) rfl (hb hby at_69) rfl (feq hc108).2 (by decide) (by decide) ?_
        show Steps p.tables e below (T106.setTop (mkF m 79 #[.val (.long x0), .second, .val (.long x1), .second, .val (.long x2), .second, .val (.int x3), .val (.int x4), .val (.int (x4 &&& (3 : Int32))), .val (.int F_), .val (.int (1 : Int32)), .val (.ref b103), .val (.long (x1 &&& (9223372036854775807 : Int64))), .second, .val (.long (x2 &&& (9223372036854775807 : Int64))), .second, .unset, .unset, .unset, .unset, .unset, .unset, .unset] [])) _
        refine XS.lloadN X106.here hx rfl (hb hby at_79) rfl ?_
        show Steps p.tables e below (T106.setTop (mkF m 80 #[.val (.long x0), .second, .val (.long x1), .second, .val (.long x2), .second, .val (.int x3), .val (.int x4), .val (.int (x4 &&& (3 : Int32))), .val (.int F_), .val (.int (1 : Int32)), .val (.ref b103), .val (.long (x1 &&& (9223372036854775807 : Int64))), .second, .val (.long (x2 &&& (9223372036854775807 : Int64))), .second, .unset, .unset, .unset, .unset, .unset, .unset, .unset] [(.long x0)])) _
        refine XS.lstore X106.here hx rfl (hb hby at_80) rfl (l' := #[.val (.long x0), .second, .val (.long x1), .second, .val (.long x2), .second, .val (.int x3), .val (.int x4), .val (.int (x4 &&& (3 : Int32))), .val (.int F_), .val (.int (1 : Int32)), .val (.ref b103), .val (.long (x1 &&& (9223372036854775807 : Int64))), .second, .val (.long (x2 &&& (9223372036854775807 : Int64))), .second, .val (.long x0), .second, .unset, .unset, .unset, .unset, .unset]) rfl ?_
        show Steps p.tables e below (T106.setTop (mkF m 82 #[.val (.long x0), .second, .val (.long x1), .second, .val (.long x2), .second, .val (.int x3), .val (.int x4), .val (.int (x4 &&& (3 : Int32))), .val (.int F_), .val (.int (1 : Int32)), .val (.ref b103), .val (.long (x1 &&& (9223372036854775807 : Int64))), .second, .val (.long (x2 &&& (9223372036854775807 : Int64))), .second, .val (.long x0), .second, .unset, .unset, .unset, .unset, .unset] [])) _
        refine XS.iload X106.here hx rfl (hb hby at_82) rfl ?_
        show Steps p.tables e below (T106.setTop (mkF m 84 #[.val (.long x0), .second, .val (.long x1), .second, .val (.long x2), .second, .val (.int x3), .val (.int x4), .val (.int (x4 &&& (3 : Int32))), .val (.int F_), .val (.int (1 : Int32)), .val (.ref b103), .val (.long (x1 &&& (9223372036854775807 : Int64))), .second, .val (.long (x2 &&& (9223372036854775807 : Int64))), .second, .val (.long x0), .second, .unset, .unset, .unset, .unset, .unset] [(.int (x4 &&& (3 : Int32)))])) _
        exact k
      by_cases hc118 : (x4 &&& (3 : Int32)) = (0 : Int32)
      · skip
        obtain ⟨cq119, kq119, q119a, q119b, q119c⟩ := isOf hZ rfl E106q
        obtain ⟨_, _, ⟨T119, L119, k119, n119⟩, -, X119, ⟨Lc119, hQ119, l119, y119, z119⟩, st119⟩ := X106.virtualBack hx (y := (⟨"com/example/gated_chorus/gatedchorus/limit/Kicks", "isBanned", "(J)Z"⟩ : MethodName)) (z := (⟨"com/example/gated_chorus/gatedchorus/limit/Kicks", "isBanned", "(J)Z"⟩ : MethodName)) hown (mvT hZ (hw _ (List.mem_of_getElem? (i := 144) rfl))) (mvT hZ (hw _ (List.mem_of_getElem? (i := 145) rfl))) (notFace_of_selects (args := #[]) (mvT hZ (hw _ (List.mem_of_getElem? (i := 147) rfl)))) (mvT hZ (hw _ (List.mem_of_getElem? (i := 147) rfl))) (mvT hZ (hw _ (List.mem_of_getElem? (i := 146) rfl))) (by decide) (backOf (W := 0) (rm_20z l Z a0 hw [] b103 (x0 + (x2 &&& (9223372036854775807 : Int64))) (0 : Int64) T106.heap n0 Z106 F2106q F3106q) hZ (hw _ (List.mem_of_getElem? (i := 148) rfl)) (hw _ (List.mem_of_getElem? (i := 7) rfl)) (by decide) (by decide)) q119a q119c (g := (mkF m 157 #[.val (.long x0), .second, .val (.long x1), .second, .val (.long x2), .second, .val (.int x3), .val (.int x4), .val (.int (x4 &&& (3 : Int32))), .val (.int F_), .val (.int (1 : Int32)), .val (.ref b103), .val (.long (x1 &&& (9223372036854775807 : Int64))), .second, .val (.long (x2 &&& (9223372036854775807 : Int64))), .second, .val (.long x0), .second, .val (.long (x0 + (x2 &&& (9223372036854775807 : Int64)))), .second, .val (.long ((F_.toInt64) * (1000000 : Int64))), .second, .val (.int (0 : Int32))] [(.long (x0 + (x2 &&& (9223372036854775807 : Int64)))), (.ref b103)])) rfl (by rw [hml]; rfl) (Steps.refl _) (argsL := [(.long (x0 + (x2 &&& (9223372036854775807 : Int64))))]) (rest := []) (lenOf pd__J_Z rfl) rfl (by show 2 * 0 + _ ≤ _; exact Nat.le_of_eq rfl) (hb hby at_157) (fun _ _ => ⟨rfl, rfl, (by decide : 4 + 0 ≤ _), (by decide : 29 + 0 ≤ _)⟩)
        dsimp only [Pt.U, Pt.locs, Pt.cells, Pt.slots] at X119 l119 y119 z119 st119 hQ119
        subst l119 y119 z119
        obtain ⟨rfl, N119q, e119q⟩ := hQ119
        have N119 := Fr.app N106 N119q
        obtain ⟨fs, hr, hrun, hended, hW, hsame⟩ := X119.leave (v := some (.int (1 : Int32))) (fun h => by rw [Bd.returns] at h; cases h)
        refine ⟨_, _, pw117 _ ?_, hrun, hended, _, _, rfl, ?_, ⟨_, rfl⟩, hW, hsame.mono (by decide) (by decide)⟩
        · skip
          refine XS.ifYes X106.here hx rfl (pc0 := 84) (pc' := 94) rfl (hb hby at_84) rfl ((if0 _ _).trans (teq hc118).1) (by decide) (by decide) ?_
          show Steps p.tables e below (T106.setTop (mkF m 94 #[.val (.long x0), .second, .val (.long x1), .second, .val (.long x2), .second, .val (.int x3), .val (.int x4), .val (.int (x4 &&& (3 : Int32))), .val (.int F_), .val (.int (1 : Int32)), .val (.ref b103), .val (.long (x1 &&& (9223372036854775807 : Int64))), .second, .val (.long (x2 &&& (9223372036854775807 : Int64))), .second, .val (.long x0), .second, .unset, .unset, .unset, .unset, .unset] [])) _
          refine XS.iload X106.here hx rfl (hb hby at_94) rfl ?_
          show Steps p.tables e below (T106.setTop (mkF m 96 #[.val (.long x0), .second, .val (.long x1), .second, .val (.long x2), .second, .val (.int x3), .val (.int x4), .val (.int (x4 &&& (3 : Int32))), .val (.int F_), .val (.int (1 : Int32)), .val (.ref b103), .val (.long (x1 &&& (9223372036854775807 : Int64))), .second, .val (.long (x2 &&& (9223372036854775807 : Int64))), .second, .val (.long x0), .second, .unset, .unset, .unset, .unset, .unset] [(.int (x4 &&& (3 : Int32)))])) _
          refine XS.iconst X106.here hx rfl (hb hby at_96) ?_
          show Steps p.tables e below (T106.setTop (mkF m 97 #[.val (.long x0), .second, .val (.long x1), .second, .val (.long x2), .second, .val (.int x3), .val (.int x4), .val (.int (x4 &&& (3 : Int32))), .val (.int F_), .val (.int (1 : Int32)), .val (.ref b103), .val (.long (x1 &&& (9223372036854775807 : Int64))), .second, .val (.long (x2 &&& (9223372036854775807 : Int64))), .second, .val (.long x0), .second, .unset, .unset, .unset, .unset, .unset] [(.int (3 : Int32)), (.int (x4 &&& (3 : Int32)))])) _
          refine XS.icmpYes X106.here hx rfl (pc0 := 97) (pc' := 110) rfl (hb hby at_97) rfl (feq hc108).2 (by decide) (by decide) ?_
          show Steps p.tables e below (T106.setTop (mkF m 110 #[.val (.long x0), .second, .val (.long x1), .second, .val (.long x2), .second, .val (.int x3), .val (.int x4), .val (.int (x4 &&& (3 : Int32))), .val (.int F_), .val (.int (1 : Int32)), .val (.ref b103), .val (.long (x1 &&& (9223372036854775807 : Int64))), .second, .val (.long (x2 &&& (9223372036854775807 : Int64))), .second, .val (.long x0), .second, .unset, .unset, .unset, .unset, .unset] [])) _
          refine XS.lload X106.here hx rfl (hb hby at_110) rfl ?_
          show Steps p.tables e below (T106.setTop (mkF m 112 #[.val (.long x0), .second, .val (.long x1), .second, .val (.long x2), .second, .val (.int x3), .val (.int x4), .val (.int (x4 &&& (3 : Int32))), .val (.int F_), .val (.int (1 : Int32)), .val (.ref b103), .val (.long (x1 &&& (9223372036854775807 : Int64))), .second, .val (.long (x2 &&& (9223372036854775807 : Int64))), .second, .val (.long x0), .second, .unset, .unset, .unset, .unset, .unset] [(.long x0)])) _
          refine XS.lload X106.here hx rfl (hb hby at_112) rfl ?_
          show Steps p.tables e below (T106.setTop (mkF m 114 #[.val (.long x0), .second, .val (.long x1), .second, .val (.long x2), .second, .val (.int x3), .val (.int x4), .val (.int (x4 &&& (3 : Int32))), .val (.int F_), .val (.int (1 : Int32)), .val (.ref b103), .val (.long (x1 &&& (9223372036854775807 : Int64))), .second, .val (.long (x2 &&& (9223372036854775807 : Int64))), .second, .val (.long x0), .second, .unset, .unset, .unset, .unset, .unset] [(.long (x2 &&& (9223372036854775807 : Int64))), (.long x0)])) _
          refine XS.ladd X106.here hx rfl (hb hby at_114) rfl ?_
          show Steps p.tables e below (T106.setTop (mkF m 115 #[.val (.long x0), .second, .val (.long x1), .second, .val (.long x2), .second, .val (.int x3), .val (.int x4), .val (.int (x4 &&& (3 : Int32))), .val (.int F_), .val (.int (1 : Int32)), .val (.ref b103), .val (.long (x1 &&& (9223372036854775807 : Int64))), .second, .val (.long (x2 &&& (9223372036854775807 : Int64))), .second, .val (.long x0), .second, .unset, .unset, .unset, .unset, .unset] [(.long (x0 + (x2 &&& (9223372036854775807 : Int64))))])) _
          refine XS.lstore X106.here hx rfl (hb hby at_115) rfl (l' := #[.val (.long x0), .second, .val (.long x1), .second, .val (.long x2), .second, .val (.int x3), .val (.int x4), .val (.int (x4 &&& (3 : Int32))), .val (.int F_), .val (.int (1 : Int32)), .val (.ref b103), .val (.long (x1 &&& (9223372036854775807 : Int64))), .second, .val (.long (x2 &&& (9223372036854775807 : Int64))), .second, .val (.long x0), .second, .val (.long (x0 + (x2 &&& (9223372036854775807 : Int64)))), .second, .unset, .unset, .unset]) rfl ?_
          show Steps p.tables e below (T106.setTop (mkF m 117 #[.val (.long x0), .second, .val (.long x1), .second, .val (.long x2), .second, .val (.int x3), .val (.int x4), .val (.int (x4 &&& (3 : Int32))), .val (.int F_), .val (.int (1 : Int32)), .val (.ref b103), .val (.long (x1 &&& (9223372036854775807 : Int64))), .second, .val (.long (x2 &&& (9223372036854775807 : Int64))), .second, .val (.long x0), .second, .val (.long (x0 + (x2 &&& (9223372036854775807 : Int64)))), .second, .unset, .unset, .unset] [])) _
          refine XS.iload X106.here hx rfl (hb hby at_117) rfl ?_
          show Steps p.tables e below (T106.setTop (mkF m 119 #[.val (.long x0), .second, .val (.long x1), .second, .val (.long x2), .second, .val (.int x3), .val (.int x4), .val (.int (x4 &&& (3 : Int32))), .val (.int F_), .val (.int (1 : Int32)), .val (.ref b103), .val (.long (x1 &&& (9223372036854775807 : Int64))), .second, .val (.long (x2 &&& (9223372036854775807 : Int64))), .second, .val (.long x0), .second, .val (.long (x0 + (x2 &&& (9223372036854775807 : Int64)))), .second, .unset, .unset, .unset] [(.int F_)])) _
          refine XS.i2l X106.here hx rfl (hb hby at_119) rfl ?_
          show Steps p.tables e below (T106.setTop (mkF m 120 #[.val (.long x0), .second, .val (.long x1), .second, .val (.long x2), .second, .val (.int x3), .val (.int x4), .val (.int (x4 &&& (3 : Int32))), .val (.int F_), .val (.int (1 : Int32)), .val (.ref b103), .val (.long (x1 &&& (9223372036854775807 : Int64))), .second, .val (.long (x2 &&& (9223372036854775807 : Int64))), .second, .val (.long x0), .second, .val (.long (x0 + (x2 &&& (9223372036854775807 : Int64)))), .second, .unset, .unset, .unset] [(.long (F_.toInt64))])) _
          refine X106.ldc2Long hx hown (mvT hZ (hw _ (List.mem_of_getElem? (i := 143) rfl))) (g := (mkF m 120 #[.val (.long x0), .second, .val (.long x1), .second, .val (.long x2), .second, .val (.int x3), .val (.int x4), .val (.int (x4 &&& (3 : Int32))), .val (.int F_), .val (.int (1 : Int32)), .val (.ref b103), .val (.long (x1 &&& (9223372036854775807 : Int64))), .second, .val (.long (x2 &&& (9223372036854775807 : Int64))), .second, .val (.long x0), .second, .val (.long (x0 + (x2 &&& (9223372036854775807 : Int64)))), .second, .unset, .unset, .unset] [(.long (F_.toInt64))])) rfl (hb hby at_120) _ ?_
          show Steps p.tables e below (T106.setTop (mkF m 123 #[.val (.long x0), .second, .val (.long x1), .second, .val (.long x2), .second, .val (.int x3), .val (.int x4), .val (.int (x4 &&& (3 : Int32))), .val (.int F_), .val (.int (1 : Int32)), .val (.ref b103), .val (.long (x1 &&& (9223372036854775807 : Int64))), .second, .val (.long (x2 &&& (9223372036854775807 : Int64))), .second, .val (.long x0), .second, .val (.long (x0 + (x2 &&& (9223372036854775807 : Int64)))), .second, .unset, .unset, .unset] [(.long (1000000 : Int64)), (.long (F_.toInt64))])) _
          refine XS.lmul X106.here hx rfl (hb hby at_123) rfl ?_
          show Steps p.tables e below (T106.setTop (mkF m 124 #[.val (.long x0), .second, .val (.long x1), .second, .val (.long x2), .second, .val (.int x3), .val (.int x4), .val (.int (x4 &&& (3 : Int32))), .val (.int F_), .val (.int (1 : Int32)), .val (.ref b103), .val (.long (x1 &&& (9223372036854775807 : Int64))), .second, .val (.long (x2 &&& (9223372036854775807 : Int64))), .second, .val (.long x0), .second, .val (.long (x0 + (x2 &&& (9223372036854775807 : Int64)))), .second, .unset, .unset, .unset] [(.long ((F_.toInt64) * (1000000 : Int64)))])) _
          refine XS.lstore X106.here hx rfl (hb hby at_124) rfl (l' := #[.val (.long x0), .second, .val (.long x1), .second, .val (.long x2), .second, .val (.int x3), .val (.int x4), .val (.int (x4 &&& (3 : Int32))), .val (.int F_), .val (.int (1 : Int32)), .val (.ref b103), .val (.long (x1 &&& (9223372036854775807 : Int64))), .second, .val (.long (x2 &&& (9223372036854775807 : Int64))), .second, .val (.long x0), .second, .val (.long (x0 + (x2 &&& (9223372036854775807 : Int64)))), .second, .val (.long ((F_.toInt64) * (1000000 : Int64))), .second, .unset]) rfl ?_
          show Steps p.tables e below (T106.setTop (mkF m 126 #[.val (.long x0), .second, .val (.long x1), .second, .val (.long x2), .second, .val (.int x3), .val (.int x4), .val (.int (x4 &&& (3 : Int32))), .val (.int F_), .val (.int (1 : Int32)), .val (.ref b103), .val (.long (x1 &&& (9223372036854775807 : Int64))), .second, .val (.long (x2 &&& (9223372036854775807 : Int64))), .second, .val (.long x0), .second, .val (.long (x0 + (x2 &&& (9223372036854775807 : Int64)))), .second, .val (.long ((F_.toInt64) * (1000000 : Int64))), .second, .unset] [])) _
          refine XS.iload X106.here hx rfl (hb hby at_126) rfl ?_
          show Steps p.tables e below (T106.setTop (mkF m 128 #[.val (.long x0), .second, .val (.long x1), .second, .val (.long x2), .second, .val (.int x3), .val (.int x4), .val (.int (x4 &&& (3 : Int32))), .val (.int F_), .val (.int (1 : Int32)), .val (.ref b103), .val (.long (x1 &&& (9223372036854775807 : Int64))), .second, .val (.long (x2 &&& (9223372036854775807 : Int64))), .second, .val (.long x0), .second, .val (.long (x0 + (x2 &&& (9223372036854775807 : Int64)))), .second, .val (.long ((F_.toInt64) * (1000000 : Int64))), .second, .unset] [(.int (x4 &&& (3 : Int32)))])) _
          refine XS.iconst X106.here hx rfl (hb hby at_128) ?_
          show Steps p.tables e below (T106.setTop (mkF m 129 #[.val (.long x0), .second, .val (.long x1), .second, .val (.long x2), .second, .val (.int x3), .val (.int x4), .val (.int (x4 &&& (3 : Int32))), .val (.int F_), .val (.int (1 : Int32)), .val (.ref b103), .val (.long (x1 &&& (9223372036854775807 : Int64))), .second, .val (.long (x2 &&& (9223372036854775807 : Int64))), .second, .val (.long x0), .second, .val (.long (x0 + (x2 &&& (9223372036854775807 : Int64)))), .second, .val (.long ((F_.toInt64) * (1000000 : Int64))), .second, .unset] [(.int (1 : Int32)), (.int (x4 &&& (3 : Int32)))])) _
          refine XS.icmpNo X106.here hx rfl (hb hby at_129) rfl (feq (fun q => absurd (hc118.symm.trans q) (by decide) : ¬ ((x4 &&& (3 : Int32)) = (1 : Int32)))).1 ?_
          show Steps p.tables e below (T106.setTop (mkF m 132 #[.val (.long x0), .second, .val (.long x1), .second, .val (.long x2), .second, .val (.int x3), .val (.int x4), .val (.int (x4 &&& (3 : Int32))), .val (.int F_), .val (.int (1 : Int32)), .val (.ref b103), .val (.long (x1 &&& (9223372036854775807 : Int64))), .second, .val (.long (x2 &&& (9223372036854775807 : Int64))), .second, .val (.long x0), .second, .val (.long (x0 + (x2 &&& (9223372036854775807 : Int64)))), .second, .val (.long ((F_.toInt64) * (1000000 : Int64))), .second, .unset] [])) _
          refine XS.iload X106.here hx rfl (hb hby at_132) rfl ?_
          show Steps p.tables e below (T106.setTop (mkF m 134 #[.val (.long x0), .second, .val (.long x1), .second, .val (.long x2), .second, .val (.int x3), .val (.int x4), .val (.int (x4 &&& (3 : Int32))), .val (.int F_), .val (.int (1 : Int32)), .val (.ref b103), .val (.long (x1 &&& (9223372036854775807 : Int64))), .second, .val (.long (x2 &&& (9223372036854775807 : Int64))), .second, .val (.long x0), .second, .val (.long (x0 + (x2 &&& (9223372036854775807 : Int64)))), .second, .val (.long ((F_.toInt64) * (1000000 : Int64))), .second, .unset] [(.int (x4 &&& (3 : Int32)))])) _
          refine XS.iconst X106.here hx rfl (hb hby at_134) ?_
          show Steps p.tables e below (T106.setTop (mkF m 135 #[.val (.long x0), .second, .val (.long x1), .second, .val (.long x2), .second, .val (.int x3), .val (.int x4), .val (.int (x4 &&& (3 : Int32))), .val (.int F_), .val (.int (1 : Int32)), .val (.ref b103), .val (.long (x1 &&& (9223372036854775807 : Int64))), .second, .val (.long (x2 &&& (9223372036854775807 : Int64))), .second, .val (.long x0), .second, .val (.long (x0 + (x2 &&& (9223372036854775807 : Int64)))), .second, .val (.long ((F_.toInt64) * (1000000 : Int64))), .second, .unset] [(.int (3 : Int32)), (.int (x4 &&& (3 : Int32)))])) _
          refine XS.icmpYes X106.here hx rfl (pc0 := 135) (pc' := 150) rfl (hb hby at_135) rfl (feq hc108).2 (by decide) (by decide) ?_
          show Steps p.tables e below (T106.setTop (mkF m 150 #[.val (.long x0), .second, .val (.long x1), .second, .val (.long x2), .second, .val (.int x3), .val (.int x4), .val (.int (x4 &&& (3 : Int32))), .val (.int F_), .val (.int (1 : Int32)), .val (.ref b103), .val (.long (x1 &&& (9223372036854775807 : Int64))), .second, .val (.long (x2 &&& (9223372036854775807 : Int64))), .second, .val (.long x0), .second, .val (.long (x0 + (x2 &&& (9223372036854775807 : Int64)))), .second, .val (.long ((F_.toInt64) * (1000000 : Int64))), .second, .unset] [])) _
          refine XS.iconst X106.here hx rfl (hb hby at_150) ?_
          show Steps p.tables e below (T106.setTop (mkF m 151 #[.val (.long x0), .second, .val (.long x1), .second, .val (.long x2), .second, .val (.int x3), .val (.int x4), .val (.int (x4 &&& (3 : Int32))), .val (.int F_), .val (.int (1 : Int32)), .val (.ref b103), .val (.long (x1 &&& (9223372036854775807 : Int64))), .second, .val (.long (x2 &&& (9223372036854775807 : Int64))), .second, .val (.long x0), .second, .val (.long (x0 + (x2 &&& (9223372036854775807 : Int64)))), .second, .val (.long ((F_.toInt64) * (1000000 : Int64))), .second, .unset] [(.int (0 : Int32))])) _
          refine XS.istore X106.here hx rfl (hb hby at_151) rfl (l' := #[.val (.long x0), .second, .val (.long x1), .second, .val (.long x2), .second, .val (.int x3), .val (.int x4), .val (.int (x4 &&& (3 : Int32))), .val (.int F_), .val (.int (1 : Int32)), .val (.ref b103), .val (.long (x1 &&& (9223372036854775807 : Int64))), .second, .val (.long (x2 &&& (9223372036854775807 : Int64))), .second, .val (.long x0), .second, .val (.long (x0 + (x2 &&& (9223372036854775807 : Int64)))), .second, .val (.long ((F_.toInt64) * (1000000 : Int64))), .second, .val (.int (0 : Int32))]) rfl ?_
          show Steps p.tables e below (T106.setTop (mkF m 153 #[.val (.long x0), .second, .val (.long x1), .second, .val (.long x2), .second, .val (.int x3), .val (.int x4), .val (.int (x4 &&& (3 : Int32))), .val (.int F_), .val (.int (1 : Int32)), .val (.ref b103), .val (.long (x1 &&& (9223372036854775807 : Int64))), .second, .val (.long (x2 &&& (9223372036854775807 : Int64))), .second, .val (.long x0), .second, .val (.long (x0 + (x2 &&& (9223372036854775807 : Int64)))), .second, .val (.long ((F_.toInt64) * (1000000 : Int64))), .second, .val (.int (0 : Int32))] [])) _
          refine XS.aload X106.here hx rfl (hb hby at_153) rfl rfl ?_
          show Steps p.tables e below (T106.setTop (mkF m 155 #[.val (.long x0), .second, .val (.long x1), .second, .val (.long x2), .second, .val (.int x3), .val (.int x4), .val (.int (x4 &&& (3 : Int32))), .val (.int F_), .val (.int (1 : Int32)), .val (.ref b103), .val (.long (x1 &&& (9223372036854775807 : Int64))), .second, .val (.long (x2 &&& (9223372036854775807 : Int64))), .second, .val (.long x0), .second, .val (.long (x0 + (x2 &&& (9223372036854775807 : Int64)))), .second, .val (.long ((F_.toInt64) * (1000000 : Int64))), .second, .val (.int (0 : Int32))] [(.ref b103)])) _
          refine XS.lload X106.here hx rfl (hb hby at_155) rfl ?_
          show Steps p.tables e below (T106.setTop (mkF m 157 #[.val (.long x0), .second, .val (.long x1), .second, .val (.long x2), .second, .val (.int x3), .val (.int x4), .val (.int (x4 &&& (3 : Int32))), .val (.int F_), .val (.int (1 : Int32)), .val (.ref b103), .val (.long (x1 &&& (9223372036854775807 : Int64))), .second, .val (.long (x2 &&& (9223372036854775807 : Int64))), .second, .val (.long x0), .second, .val (.long (x0 + (x2 &&& (9223372036854775807 : Int64)))), .second, .val (.long ((F_.toInt64) * (1000000 : Int64))), .second, .val (.int (0 : Int32))] [(.long (x0 + (x2 &&& (9223372036854775807 : Int64)))), (.ref b103)])) _
          refine st119.trans ?_
          show Steps p.tables e below (T119.setTop (mkF m 160 #[.val (.long x0), .second, .val (.long x1), .second, .val (.long x2), .second, .val (.int x3), .val (.int x4), .val (.int (x4 &&& (3 : Int32))), .val (.int F_), .val (.int (1 : Int32)), .val (.ref b103), .val (.long (x1 &&& (9223372036854775807 : Int64))), .second, .val (.long (x2 &&& (9223372036854775807 : Int64))), .second, .val (.long x0), .second, .val (.long (x0 + (x2 &&& (9223372036854775807 : Int64)))), .second, .val (.long ((F_.toInt64) * (1000000 : Int64))), .second, .val (.int (0 : Int32))] [(.int (0 : Int32))])) _
          refine XS.iload X119.here hx rfl (hb hby at_160) rfl ?_
          show Steps p.tables e below (T119.setTop (mkF m 162 #[.val (.long x0), .second, .val (.long x1), .second, .val (.long x2), .second, .val (.int x3), .val (.int x4), .val (.int (x4 &&& (3 : Int32))), .val (.int F_), .val (.int (1 : Int32)), .val (.ref b103), .val (.long (x1 &&& (9223372036854775807 : Int64))), .second, .val (.long (x2 &&& (9223372036854775807 : Int64))), .second, .val (.long x0), .second, .val (.long (x0 + (x2 &&& (9223372036854775807 : Int64)))), .second, .val (.long ((F_.toInt64) * (1000000 : Int64))), .second, .val (.int (0 : Int32))] [(.int (0 : Int32)), (.int (0 : Int32))])) _
          refine XS.icmpNo X119.here hx rfl (hb hby at_162) rfl (teq (by decide : (0 : Int32) = (0 : Int32))).2 ?_
          show Steps p.tables e below (T119.setTop (mkF m 165 #[.val (.long x0), .second, .val (.long x1), .second, .val (.long x2), .second, .val (.int x3), .val (.int x4), .val (.int (x4 &&& (3 : Int32))), .val (.int F_), .val (.int (1 : Int32)), .val (.ref b103), .val (.long (x1 &&& (9223372036854775807 : Int64))), .second, .val (.long (x2 &&& (9223372036854775807 : Int64))), .second, .val (.long x0), .second, .val (.long (x0 + (x2 &&& (9223372036854775807 : Int64)))), .second, .val (.long ((F_.toInt64) * (1000000 : Int64))), .second, .val (.int (0 : Int32))] [])) _
          refine XS.iconst X119.here hx rfl (hb hby at_165) ?_
          show Steps p.tables e below (T119.setTop (mkF m 166 #[.val (.long x0), .second, .val (.long x1), .second, .val (.long x2), .second, .val (.int x3), .val (.int x4), .val (.int (x4 &&& (3 : Int32))), .val (.int F_), .val (.int (1 : Int32)), .val (.ref b103), .val (.long (x1 &&& (9223372036854775807 : Int64))), .second, .val (.long (x2 &&& (9223372036854775807 : Int64))), .second, .val (.long x0), .second, .val (.long (x0 + (x2 &&& (9223372036854775807 : Int64)))), .second, .val (.long ((F_.toInt64) * (1000000 : Int64))), .second, .val (.int (0 : Int32))] [(.int (1 : Int32))])) _
          refine XS.goto X119.here hx rfl (pc0 := 166) (pc' := 170) rfl (hb hby at_166) (by decide) (by decide) ?_
          show Steps p.tables e below (T119.setTop (mkF m 170 #[.val (.long x0), .second, .val (.long x1), .second, .val (.long x2), .second, .val (.int x3), .val (.int x4), .val (.int (x4 &&& (3 : Int32))), .val (.int F_), .val (.int (1 : Int32)), .val (.ref b103), .val (.long (x1 &&& (9223372036854775807 : Int64))), .second, .val (.long (x2 &&& (9223372036854775807 : Int64))), .second, .val (.long x0), .second, .val (.long (x0 + (x2 &&& (9223372036854775807 : Int64)))), .second, .val (.long ((F_.toInt64) * (1000000 : Int64))), .second, .val (.int (0 : Int32))] [(.int (1 : Int32))])) _
          exact retN X119 hx (t := .boolean) Bd.returns (by simp) (hb hby at_170) hr
        · show Q_0 Z x0 x1 x2 x3 x4 F_ tu cl ca h0 n0 _ T119.heap _
          rw [e119q]
          exact ⟨rfl, N119⟩
      · skip
        have hca120 : ∀ j : Int32, ¬ (j < 0 ∨ cl.slots.size ≤ j.toNatClampNeg) → ∃ b, cl.slots[j.toNatClampNeg]? = some (.ref b) ∧ Exa Z T106.heap b "java/lang/Long" := fun j hj => by obtain ⟨b, q1, q2⟩ := hcache j hj; exact ⟨b, q1, q2.keep K106⟩
        obtain ⟨cq121, kq121, q121a, q121b, q121c⟩ := isOf hZ rfl E106q
        obtain ⟨_, _, ⟨T121, L121, k121, n121⟩, -, X121, ⟨Lc121, hQ121, l121, y121, z121⟩, st121⟩ := X106.virtualBack hx (y := (⟨"com/example/gated_chorus/gatedchorus/limit/Kicks", "kick", "(J)Z"⟩ : MethodName)) (z := (⟨"com/example/gated_chorus/gatedchorus/limit/Kicks", "kick", "(J)Z"⟩ : MethodName)) hown (mvT hZ (hw _ (List.mem_of_getElem? (i := 79) rfl))) (mvT hZ (hw _ (List.mem_of_getElem? (i := 80) rfl))) (notFace_of_selects (args := #[]) (mvT hZ (hw _ (List.mem_of_getElem? (i := 82) rfl)))) (mvT hZ (hw _ (List.mem_of_getElem? (i := 82) rfl))) (mvT hZ (hw _ (List.mem_of_getElem? (i := 81) rfl))) (by decide) (backOf (W := 0) (rm_11a l Z a0 hw [] b103 x0 ((F_.toInt64) * (1000000 : Int64)) (0 : Int32) (0 : Int64) d106 ea106 kk106 cl ca T106.heap n0 Z106 E106q F0106q F1106q F2106q F3106q Ft106x Ed106q Fe106q Fh106q Ft106q Va106q Ov106q g_b103 g_d106 g_ea106 hde106 had hae (own_staKeep S_c K106 ns0) (own_arrKeep Ar_c K106) hsz hca120) hZ (hw _ (List.mem_of_getElem? (i := 83) rfl)) (hw _ (List.mem_of_getElem? (i := 7) rfl)) (by decide) (by decide)) q121a q121c (g := (mkF m 90 #[.val (.long x0), .second, .val (.long x1), .second, .val (.long x2), .second, .val (.int x3), .val (.int x4), .val (.int (x4 &&& (3 : Int32))), .val (.int F_), .val (.int (1 : Int32)), .val (.ref b103), .val (.long (x1 &&& (9223372036854775807 : Int64))), .second, .val (.long (x2 &&& (9223372036854775807 : Int64))), .second, .val (.long x0), .second, .unset, .unset, .unset, .unset, .unset] [(.long x0), (.ref b103)])) rfl (by rw [hml]; rfl) (Steps.refl _) (argsL := [(.long x0)]) (rest := []) (lenOf pd__J_Z rfl) rfl (by show 2 * 0 + _ ≤ _; exact Nat.le_of_eq rfl) (hb hby at_90) (fun _ _ => ⟨rfl, rfl, (by decide : 4 + 1 ≤ _), (by decide : 29 + 1 ≤ _)⟩)
        dsimp only [Pt.U, Pt.locs, Pt.cells, Pt.slots] at X121 l121 y121 z121 st121 hQ121
        subst l121 y121 z121
        obtain ⟨rfl, N121q, K121q, E121q, F0121q, F1121q, F2121q, F3121q, Ft121x, Ed121q, Fe121q, Fh121q, Ft121q, Va121q⟩ := hQ121
        have N121 := Fr.app N106 N121q
        have K121 : Keep h0 T121.heap [] := K106.trans K121q (allS (P := fun x => x ∈ [] ∨ h0.size ≤ x) (Or.inr sz_b103) (allS (P := fun x => x ∈ [] ∨ h0.size ≤ x) (Or.inr sz_d106) (allS (P := fun x => x ∈ [] ∨ h0.size ≤ x) (Or.inr sz_ea106) all0)))
        have Z121 : n0 ≤ T121.heap.size := (Nat.le_trans Z106 K121q.1)
        have pw122 : ∀ t, Steps p.tables e below (T121.setTop (mkF m 143 #[.val (.long x0), .second, .val (.long x1), .second, .val (.long x2), .second, .val (.int x3), .val (.int x4), .val (.int (x4 &&& (3 : Int32))), .val (.int F_), .val (.int (1 : Int32)), .val (.ref b103), .val (.long (x1 &&& (9223372036854775807 : Int64))), .second, .val (.long (x2 &&& (9223372036854775807 : Int64))), .second, .val (.long x0), .second, .val (.long (x0 + (x2 &&& (9223372036854775807 : Int64)))), .second, .val (.long ((F_.toInt64) * (1000000 : Int64))), .second, .unset] [(.int (lcmpW (x2 &&& (9223372036854775807 : Int64)) ((F_.toInt64) * (1000000 : Int64))))])) t → Steps p.tables e below (s₁.setTop (entryFrame m #[(.long x0), (.long x1), (.long x2), (.int x3), (.int x4)] maxLocals)) t := by
          intro t k
          refine pw117 t ?_
          refine XS.ifNo X106.here hx rfl (hb hby at_84) rfl ((if0 _ _).trans (feq hc118).1) ?_
          show Steps p.tables e below (T106.setTop (mkF m 87 #[.val (.long x0), .second, .val (.long x1), .second, .val (.long x2), .second, .val (.int x3), .val (.int x4), .val (.int (x4 &&& (3 : Int32))), .val (.int F_), .val (.int (1 : Int32)), .val (.ref b103), .val (.long (x1 &&& (9223372036854775807 : Int64))), .second, .val (.long (x2 &&& (9223372036854775807 : Int64))), .second, .val (.long x0), .second, .unset, .unset, .unset, .unset, .unset] [])) _
          refine XS.aload X106.here hx rfl (hb hby at_87) rfl rfl ?_
          show Steps p.tables e below (T106.setTop (mkF m 89 #[.val (.long x0), .second, .val (.long x1), .second, .val (.long x2), .second, .val (.int x3), .val (.int x4), .val (.int (x4 &&& (3 : Int32))), .val (.int F_), .val (.int (1 : Int32)), .val (.ref b103), .val (.long (x1 &&& (9223372036854775807 : Int64))), .second, .val (.long (x2 &&& (9223372036854775807 : Int64))), .second, .val (.long x0), .second, .unset, .unset, .unset, .unset, .unset] [(.ref b103)])) _
          refine XS.lloadN X106.here hx rfl (hb hby at_89) rfl ?_
          show Steps p.tables e below (T106.setTop (mkF m 90 #[.val (.long x0), .second, .val (.long x1), .second, .val (.long x2), .second, .val (.int x3), .val (.int x4), .val (.int (x4 &&& (3 : Int32))), .val (.int F_), .val (.int (1 : Int32)), .val (.ref b103), .val (.long (x1 &&& (9223372036854775807 : Int64))), .second, .val (.long (x2 &&& (9223372036854775807 : Int64))), .second, .val (.long x0), .second, .unset, .unset, .unset, .unset, .unset] [(.long x0), (.ref b103)])) _
          refine st121.trans ?_
          show Steps p.tables e below (T121.setTop (mkF m 93 #[.val (.long x0), .second, .val (.long x1), .second, .val (.long x2), .second, .val (.int x3), .val (.int x4), .val (.int (x4 &&& (3 : Int32))), .val (.int F_), .val (.int (1 : Int32)), .val (.ref b103), .val (.long (x1 &&& (9223372036854775807 : Int64))), .second, .val (.long (x2 &&& (9223372036854775807 : Int64))), .second, .val (.long x0), .second, .unset, .unset, .unset, .unset, .unset] [(.int (1 : Int32))])) _
          refine XS.pop X121.here hx rfl (hb hby at_93) rfl rfl ?_
          show Steps p.tables e below (T121.setTop (mkF m 94 #[.val (.long x0), .second, .val (.long x1), .second, .val (.long x2), .second, .val (.int x3), .val (.int x4), .val (.int (x4 &&& (3 : Int32))), .val (.int F_), .val (.int (1 : Int32)), .val (.ref b103), .val (.long (x1 &&& (9223372036854775807 : Int64))), .second, .val (.long (x2 &&& (9223372036854775807 : Int64))), .second, .val (.long x0), .second, .unset, .unset, .unset, .unset, .unset] [])) _
          refine XS.iload X121.here hx rfl (hb hby at_94) rfl ?_
          show Steps p.tables e below (T121.setTop (mkF m 96 #[.val (.long x0), .second, .val (.long x1), .second, .val (.long x2), .second, .val (.int x3), .val (.int x4), .val (.int (x4 &&& (3 : Int32))), .val (.int F_), .val (.int (1 : Int32)), .val (.ref b103), .val (.long (x1 &&& (9223372036854775807 : Int64))), .second, .val (.long (x2 &&& (9223372036854775807 : Int64))), .second, .val (.long x0), .second, .unset, .unset, .unset, .unset, .unset] [(.int (x4 &&& (3 : Int32)))])) _
          refine XS.iconst X121.here hx rfl (hb hby at_96) ?_
          show Steps p.tables e below (T121.setTop (mkF m 97 #[.val (.long x0), .second, .val (.long x1), .second, .val (.long x2), .second, .val (.int x3), .val (.int x4), .val (.int (x4 &&& (3 : Int32))), .val (.int F_), .val (.int (1 : Int32)), .val (.ref b103), .val (.long (x1 &&& (9223372036854775807 : Int64))), .second, .val (.long (x2 &&& (9223372036854775807 : Int64))), .second, .val (.long x0), .second, .unset, .unset, .unset, .unset, .unset] [(.int (3 : Int32)), (.int (x4 &&& (3 : Int32)))])) _
          refine XS.icmpYes X121.here hx rfl (pc0 := 97) (pc' := 110) rfl (hb hby at_97) rfl (feq hc108).2 (by decide) (by decide) ?_
          show Steps p.tables e below (T121.setTop (mkF m 110 #[.val (.long x0), .second, .val (.long x1), .second, .val (.long x2), .second, .val (.int x3), .val (.int x4), .val (.int (x4 &&& (3 : Int32))), .val (.int F_), .val (.int (1 : Int32)), .val (.ref b103), .val (.long (x1 &&& (9223372036854775807 : Int64))), .second, .val (.long (x2 &&& (9223372036854775807 : Int64))), .second, .val (.long x0), .second, .unset, .unset, .unset, .unset, .unset] [])) _
          refine XS.lload X121.here hx rfl (hb hby at_110) rfl ?_
          show Steps p.tables e below (T121.setTop (mkF m 112 #[.val (.long x0), .second, .val (.long x1), .second, .val (.long x2), .second, .val (.int x3), .val (.int x4), .val (.int (x4 &&& (3 : Int32))), .val (.int F_), .val (.int (1 : Int32)), .val (.ref b103), .val (.long (x1 &&& (9223372036854775807 : Int64))), .second, .val (.long (x2 &&& (9223372036854775807 : Int64))), .second, .val (.long x0), .second, .unset, .unset, .unset, .unset, .unset] [(.long x0)])) _
          refine XS.lload X121.here hx rfl (hb hby at_112) rfl ?_
          show Steps p.tables e below (T121.setTop (mkF m 114 #[.val (.long x0), .second, .val (.long x1), .second, .val (.long x2), .second, .val (.int x3), .val (.int x4), .val (.int (x4 &&& (3 : Int32))), .val (.int F_), .val (.int (1 : Int32)), .val (.ref b103), .val (.long (x1 &&& (9223372036854775807 : Int64))), .second, .val (.long (x2 &&& (9223372036854775807 : Int64))), .second, .val (.long x0), .second, .unset, .unset, .unset, .unset, .unset] [(.long (x2 &&& (9223372036854775807 : Int64))), (.long x0)])) _
          refine XS.ladd X121.here hx rfl (hb hby at_114) rfl ?_
          show Steps p.tables e below (T121.setTop (mkF m 115 #[.val (.long x0), .second, .val (.long x1), .second, .val (.long x2), .second, .val (.int x3), .val (.int x4), .val (.int (x4 &&& (3 : Int32))), .val (.int F_), .val (.int (1 : Int32)), .val (.ref b103), .val (.long (x1 &&& (9223372036854775807 : Int64))), .second, .val (.long (x2 &&& (9223372036854775807 : Int64))), .second, .val (.long x0), .second, .unset, .unset, .unset, .unset, .unset] [(.long (x0 + (x2 &&& (9223372036854775807 : Int64))))])) _
          refine XS.lstore X121.here hx rfl (hb hby at_115) rfl (l' := #[.val (.long x0), .second, .val (.long x1), .second, .val (.long x2), .second, .val (.int x3), .val (.int x4), .val (.int (x4 &&& (3 : Int32))), .val (.int F_), .val (.int (1 : Int32)), .val (.ref b103), .val (.long (x1 &&& (9223372036854775807 : Int64))), .second, .val (.long (x2 &&& (9223372036854775807 : Int64))), .second, .val (.long x0), .second, .val (.long (x0 + (x2 &&& (9223372036854775807 : Int64)))), .second, .unset, .unset, .unset]) rfl ?_
          show Steps p.tables e below (T121.setTop (mkF m 117 #[.val (.long x0), .second, .val (.long x1), .second, .val (.long x2), .second, .val (.int x3), .val (.int x4), .val (.int (x4 &&& (3 : Int32))), .val (.int F_), .val (.int (1 : Int32)), .val (.ref b103), .val (.long (x1 &&& (9223372036854775807 : Int64))), .second, .val (.long (x2 &&& (9223372036854775807 : Int64))), .second, .val (.long x0), .second, .val (.long (x0 + (x2 &&& (9223372036854775807 : Int64)))), .second, .unset, .unset, .unset] [])) _
          refine XS.iload X121.here hx rfl (hb hby at_117) rfl ?_
          show Steps p.tables e below (T121.setTop (mkF m 119 #[.val (.long x0), .second, .val (.long x1), .second, .val (.long x2), .second, .val (.int x3), .val (.int x4), .val (.int (x4 &&& (3 : Int32))), .val (.int F_), .val (.int (1 : Int32)), .val (.ref b103), .val (.long (x1 &&& (9223372036854775807 : Int64))), .second, .val (.long (x2 &&& (9223372036854775807 : Int64))), .second, .val (.long x0), .second, .val (.long (x0 + (x2 &&& (9223372036854775807 : Int64)))), .second, .unset, .unset, .unset] [(.int F_)])) _
          refine XS.i2l X121.here hx rfl (hb hby at_119) rfl ?_
          show Steps p.tables e below (T121.setTop (mkF m 120 #[.val (.long x0), .second, .val (.long x1), .second, .val (.long x2), .second, .val (.int x3), .val (.int x4), .val (.int (x4 &&& (3 : Int32))), .val (.int F_), .val (.int (1 : Int32)), .val (.ref b103), .val (.long (x1 &&& (9223372036854775807 : Int64))), .second, .val (.long (x2 &&& (9223372036854775807 : Int64))), .second, .val (.long x0), .second, .val (.long (x0 + (x2 &&& (9223372036854775807 : Int64)))), .second, .unset, .unset, .unset] [(.long (F_.toInt64))])) _
          refine X121.ldc2Long hx hown (mvT hZ (hw _ (List.mem_of_getElem? (i := 143) rfl))) (g := (mkF m 120 #[.val (.long x0), .second, .val (.long x1), .second, .val (.long x2), .second, .val (.int x3), .val (.int x4), .val (.int (x4 &&& (3 : Int32))), .val (.int F_), .val (.int (1 : Int32)), .val (.ref b103), .val (.long (x1 &&& (9223372036854775807 : Int64))), .second, .val (.long (x2 &&& (9223372036854775807 : Int64))), .second, .val (.long x0), .second, .val (.long (x0 + (x2 &&& (9223372036854775807 : Int64)))), .second, .unset, .unset, .unset] [(.long (F_.toInt64))])) rfl (hb hby at_120) _ ?_
          show Steps p.tables e below (T121.setTop (mkF m 123 #[.val (.long x0), .second, .val (.long x1), .second, .val (.long x2), .second, .val (.int x3), .val (.int x4), .val (.int (x4 &&& (3 : Int32))), .val (.int F_), .val (.int (1 : Int32)), .val (.ref b103), .val (.long (x1 &&& (9223372036854775807 : Int64))), .second, .val (.long (x2 &&& (9223372036854775807 : Int64))), .second, .val (.long x0), .second, .val (.long (x0 + (x2 &&& (9223372036854775807 : Int64)))), .second, .unset, .unset, .unset] [(.long (1000000 : Int64)), (.long (F_.toInt64))])) _
          refine XS.lmul X121.here hx rfl (hb hby at_123) rfl ?_
          show Steps p.tables e below (T121.setTop (mkF m 124 #[.val (.long x0), .second, .val (.long x1), .second, .val (.long x2), .second, .val (.int x3), .val (.int x4), .val (.int (x4 &&& (3 : Int32))), .val (.int F_), .val (.int (1 : Int32)), .val (.ref b103), .val (.long (x1 &&& (9223372036854775807 : Int64))), .second, .val (.long (x2 &&& (9223372036854775807 : Int64))), .second, .val (.long x0), .second, .val (.long (x0 + (x2 &&& (9223372036854775807 : Int64)))), .second, .unset, .unset, .unset] [(.long ((F_.toInt64) * (1000000 : Int64)))])) _
          refine XS.lstore X121.here hx rfl (hb hby at_124) rfl (l' := #[.val (.long x0), .second, .val (.long x1), .second, .val (.long x2), .second, .val (.int x3), .val (.int x4), .val (.int (x4 &&& (3 : Int32))), .val (.int F_), .val (.int (1 : Int32)), .val (.ref b103), .val (.long (x1 &&& (9223372036854775807 : Int64))), .second, .val (.long (x2 &&& (9223372036854775807 : Int64))), .second, .val (.long x0), .second, .val (.long (x0 + (x2 &&& (9223372036854775807 : Int64)))), .second, .val (.long ((F_.toInt64) * (1000000 : Int64))), .second, .unset]) rfl ?_
          show Steps p.tables e below (T121.setTop (mkF m 126 #[.val (.long x0), .second, .val (.long x1), .second, .val (.long x2), .second, .val (.int x3), .val (.int x4), .val (.int (x4 &&& (3 : Int32))), .val (.int F_), .val (.int (1 : Int32)), .val (.ref b103), .val (.long (x1 &&& (9223372036854775807 : Int64))), .second, .val (.long (x2 &&& (9223372036854775807 : Int64))), .second, .val (.long x0), .second, .val (.long (x0 + (x2 &&& (9223372036854775807 : Int64)))), .second, .val (.long ((F_.toInt64) * (1000000 : Int64))), .second, .unset] [])) _
          refine XS.iload X121.here hx rfl (hb hby at_126) rfl ?_
          show Steps p.tables e below (T121.setTop (mkF m 128 #[.val (.long x0), .second, .val (.long x1), .second, .val (.long x2), .second, .val (.int x3), .val (.int x4), .val (.int (x4 &&& (3 : Int32))), .val (.int F_), .val (.int (1 : Int32)), .val (.ref b103), .val (.long (x1 &&& (9223372036854775807 : Int64))), .second, .val (.long (x2 &&& (9223372036854775807 : Int64))), .second, .val (.long x0), .second, .val (.long (x0 + (x2 &&& (9223372036854775807 : Int64)))), .second, .val (.long ((F_.toInt64) * (1000000 : Int64))), .second, .unset] [(.int (x4 &&& (3 : Int32)))])) _
          refine XS.iconst X121.here hx rfl (hb hby at_128) ?_
          show Steps p.tables e below (T121.setTop (mkF m 129 #[.val (.long x0), .second, .val (.long x1), .second, .val (.long x2), .second, .val (.int x3), .val (.int x4), .val (.int (x4 &&& (3 : Int32))), .val (.int F_), .val (.int (1 : Int32)), .val (.ref b103), .val (.long (x1 &&& (9223372036854775807 : Int64))), .second, .val (.long (x2 &&& (9223372036854775807 : Int64))), .second, .val (.long x0), .second, .val (.long (x0 + (x2 &&& (9223372036854775807 : Int64)))), .second, .val (.long ((F_.toInt64) * (1000000 : Int64))), .second, .unset] [(.int (1 : Int32)), (.int (x4 &&& (3 : Int32)))])) _
          refine XS.icmpYes X121.here hx rfl (pc0 := 129) (pc' := 138) rfl (hb hby at_129) rfl (teq (own_m1 hmd hc95 hc108 hc118 : (x4 &&& (3 : Int32)) = (1 : Int32))).1 (by decide) (by decide) ?_
          show Steps p.tables e below (T121.setTop (mkF m 138 #[.val (.long x0), .second, .val (.long x1), .second, .val (.long x2), .second, .val (.int x3), .val (.int x4), .val (.int (x4 &&& (3 : Int32))), .val (.int F_), .val (.int (1 : Int32)), .val (.ref b103), .val (.long (x1 &&& (9223372036854775807 : Int64))), .second, .val (.long (x2 &&& (9223372036854775807 : Int64))), .second, .val (.long x0), .second, .val (.long (x0 + (x2 &&& (9223372036854775807 : Int64)))), .second, .val (.long ((F_.toInt64) * (1000000 : Int64))), .second, .unset] [])) _
          refine XS.lload X121.here hx rfl (hb hby at_138) rfl ?_
          show Steps p.tables e below (T121.setTop (mkF m 140 #[.val (.long x0), .second, .val (.long x1), .second, .val (.long x2), .second, .val (.int x3), .val (.int x4), .val (.int (x4 &&& (3 : Int32))), .val (.int F_), .val (.int (1 : Int32)), .val (.ref b103), .val (.long (x1 &&& (9223372036854775807 : Int64))), .second, .val (.long (x2 &&& (9223372036854775807 : Int64))), .second, .val (.long x0), .second, .val (.long (x0 + (x2 &&& (9223372036854775807 : Int64)))), .second, .val (.long ((F_.toInt64) * (1000000 : Int64))), .second, .unset] [(.long (x2 &&& (9223372036854775807 : Int64)))])) _
          refine XS.lload X121.here hx rfl (hb hby at_140) rfl ?_
          show Steps p.tables e below (T121.setTop (mkF m 142 #[.val (.long x0), .second, .val (.long x1), .second, .val (.long x2), .second, .val (.int x3), .val (.int x4), .val (.int (x4 &&& (3 : Int32))), .val (.int F_), .val (.int (1 : Int32)), .val (.ref b103), .val (.long (x1 &&& (9223372036854775807 : Int64))), .second, .val (.long (x2 &&& (9223372036854775807 : Int64))), .second, .val (.long x0), .second, .val (.long (x0 + (x2 &&& (9223372036854775807 : Int64)))), .second, .val (.long ((F_.toInt64) * (1000000 : Int64))), .second, .unset] [(.long ((F_.toInt64) * (1000000 : Int64))), (.long (x2 &&& (9223372036854775807 : Int64)))])) _
          refine XS.lcmp X121.here hx rfl (hb hby at_142) rfl ?_
          show Steps p.tables e below (T121.setTop (mkF m 143 #[.val (.long x0), .second, .val (.long x1), .second, .val (.long x2), .second, .val (.int x3), .val (.int x4), .val (.int (x4 &&& (3 : Int32))), .val (.int F_), .val (.int (1 : Int32)), .val (.ref b103), .val (.long (x1 &&& (9223372036854775807 : Int64))), .second, .val (.long (x2 &&& (9223372036854775807 : Int64))), .second, .val (.long x0), .second, .val (.long (x0 + (x2 &&& (9223372036854775807 : Int64)))), .second, .val (.long ((F_.toInt64) * (1000000 : Int64))), .second, .unset] [(.int (lcmpW (x2 &&& (9223372036854775807 : Int64)) ((F_.toInt64) * (1000000 : Int64))))])) _
          exact k
        by_cases hc123 : (x2 &&& (9223372036854775807 : Int64)) < ((F_.toInt64) * (1000000 : Int64))
        · skip
          obtain ⟨cq124, kq124, q124a, q124b, q124c⟩ := isOf hZ rfl E121q
          obtain ⟨_, _, ⟨T124, L124, k124, n124⟩, -, X124, ⟨Lc124, hQ124, l124, y124, z124⟩, st124⟩ := X121.virtualBack hx (y := (⟨"com/example/gated_chorus/gatedchorus/limit/Kicks", "isBanned", "(J)Z"⟩ : MethodName)) (z := (⟨"com/example/gated_chorus/gatedchorus/limit/Kicks", "isBanned", "(J)Z"⟩ : MethodName)) hown (mvT hZ (hw _ (List.mem_of_getElem? (i := 144) rfl))) (mvT hZ (hw _ (List.mem_of_getElem? (i := 145) rfl))) (notFace_of_selects (args := #[]) (mvT hZ (hw _ (List.mem_of_getElem? (i := 147) rfl)))) (mvT hZ (hw _ (List.mem_of_getElem? (i := 147) rfl))) (mvT hZ (hw _ (List.mem_of_getElem? (i := 146) rfl))) (by decide) (backOf (W := 0) (rm_20o l Z a0 hw [] b103 (x0 + (x2 &&& (9223372036854775807 : Int64))) (x0 + ((F_.toInt64) * (1000000 : Int64))) (1 : Int32) T121.heap n0 Z121 F2121q F3121q (if_pos ((own_cmp x0 (x2 &&& (9223372036854775807 : Int64)) ((F_.toInt64) * (1000000 : Int64)) hel hfn0 hfn1).2 hc123))) hZ (hw _ (List.mem_of_getElem? (i := 148) rfl)) (hw _ (List.mem_of_getElem? (i := 7) rfl)) (by decide) (by decide)) q124a q124c (g := (mkF m 157 #[.val (.long x0), .second, .val (.long x1), .second, .val (.long x2), .second, .val (.int x3), .val (.int x4), .val (.int (x4 &&& (3 : Int32))), .val (.int F_), .val (.int (1 : Int32)), .val (.ref b103), .val (.long (x1 &&& (9223372036854775807 : Int64))), .second, .val (.long (x2 &&& (9223372036854775807 : Int64))), .second, .val (.long x0), .second, .val (.long (x0 + (x2 &&& (9223372036854775807 : Int64)))), .second, .val (.long ((F_.toInt64) * (1000000 : Int64))), .second, .val (.int (1 : Int32))] [(.long (x0 + (x2 &&& (9223372036854775807 : Int64)))), (.ref b103)])) rfl (by rw [hml]; rfl) (Steps.refl _) (argsL := [(.long (x0 + (x2 &&& (9223372036854775807 : Int64))))]) (rest := []) (lenOf pd__J_Z rfl) rfl (by show 2 * 0 + _ ≤ _; exact Nat.le_of_eq rfl) (hb hby at_157) (fun _ _ => ⟨rfl, rfl, (by decide : 5 + 0 ≤ _), (by decide : 30 + 0 ≤ _)⟩)
          dsimp only [Pt.U, Pt.locs, Pt.cells, Pt.slots] at X124 l124 y124 z124 st124 hQ124
          subst l124 y124 z124
          obtain ⟨rfl, N124q, e124q⟩ := hQ124
          have N124 := Fr.app N121 N124q
          obtain ⟨fs, hr, hrun, hended, hW, hsame⟩ := X124.leave (v := some (.int (1 : Int32))) (fun h => by rw [Bd.returns] at h; cases h)
          refine ⟨_, _, pw122 _ ?_, hrun, hended, _, _, rfl, ?_, ⟨_, rfl⟩, hW, hsame.mono (by decide) (by decide)⟩
          · skip
            refine XS.ifNo X121.here hx rfl (hb hby at_143) rfl ((if0 _ _).trans (tlt ((lw_lt (x2 &&& (9223372036854775807 : Int64)) ((F_.toInt64) * (1000000 : Int64))).2 hc123)).2.1) ?_
            show Steps p.tables e below (T121.setTop (mkF m 146 #[.val (.long x0), .second, .val (.long x1), .second, .val (.long x2), .second, .val (.int x3), .val (.int x4), .val (.int (x4 &&& (3 : Int32))), .val (.int F_), .val (.int (1 : Int32)), .val (.ref b103), .val (.long (x1 &&& (9223372036854775807 : Int64))), .second, .val (.long (x2 &&& (9223372036854775807 : Int64))), .second, .val (.long x0), .second, .val (.long (x0 + (x2 &&& (9223372036854775807 : Int64)))), .second, .val (.long ((F_.toInt64) * (1000000 : Int64))), .second, .unset] [])) _
            refine XS.iconst X121.here hx rfl (hb hby at_146) ?_
            show Steps p.tables e below (T121.setTop (mkF m 147 #[.val (.long x0), .second, .val (.long x1), .second, .val (.long x2), .second, .val (.int x3), .val (.int x4), .val (.int (x4 &&& (3 : Int32))), .val (.int F_), .val (.int (1 : Int32)), .val (.ref b103), .val (.long (x1 &&& (9223372036854775807 : Int64))), .second, .val (.long (x2 &&& (9223372036854775807 : Int64))), .second, .val (.long x0), .second, .val (.long (x0 + (x2 &&& (9223372036854775807 : Int64)))), .second, .val (.long ((F_.toInt64) * (1000000 : Int64))), .second, .unset] [(.int (1 : Int32))])) _
            refine XS.goto X121.here hx rfl (pc0 := 147) (pc' := 151) rfl (hb hby at_147) (by decide) (by decide) ?_
            show Steps p.tables e below (T121.setTop (mkF m 151 #[.val (.long x0), .second, .val (.long x1), .second, .val (.long x2), .second, .val (.int x3), .val (.int x4), .val (.int (x4 &&& (3 : Int32))), .val (.int F_), .val (.int (1 : Int32)), .val (.ref b103), .val (.long (x1 &&& (9223372036854775807 : Int64))), .second, .val (.long (x2 &&& (9223372036854775807 : Int64))), .second, .val (.long x0), .second, .val (.long (x0 + (x2 &&& (9223372036854775807 : Int64)))), .second, .val (.long ((F_.toInt64) * (1000000 : Int64))), .second, .unset] [(.int (1 : Int32))])) _
            refine XS.istore X121.here hx rfl (hb hby at_151) rfl (l' := #[.val (.long x0), .second, .val (.long x1), .second, .val (.long x2), .second, .val (.int x3), .val (.int x4), .val (.int (x4 &&& (3 : Int32))), .val (.int F_), .val (.int (1 : Int32)), .val (.ref b103), .val (.long (x1 &&& (9223372036854775807 : Int64))), .second, .val (.long (x2 &&& (9223372036854775807 : Int64))), .second, .val (.long x0), .second, .val (.long (x0 + (x2 &&& (9223372036854775807 : Int64)))), .second, .val (.long ((F_.toInt64) * (1000000 : Int64))), .second, .val (.int (1 : Int32))]) rfl ?_
            show Steps p.tables e below (T121.setTop (mkF m 153 #[.val (.long x0), .second, .val (.long x1), .second, .val (.long x2), .second, .val (.int x3), .val (.int x4), .val (.int (x4 &&& (3 : Int32))), .val (.int F_), .val (.int (1 : Int32)), .val (.ref b103), .val (.long (x1 &&& (9223372036854775807 : Int64))), .second, .val (.long (x2 &&& (9223372036854775807 : Int64))), .second, .val (.long x0), .second, .val (.long (x0 + (x2 &&& (9223372036854775807 : Int64)))), .second, .val (.long ((F_.toInt64) * (1000000 : Int64))), .second, .val (.int (1 : Int32))] [])) _
            refine XS.aload X121.here hx rfl (hb hby at_153) rfl rfl ?_
            show Steps p.tables e below (T121.setTop (mkF m 155 #[.val (.long x0), .second, .val (.long x1), .second, .val (.long x2), .second, .val (.int x3), .val (.int x4), .val (.int (x4 &&& (3 : Int32))), .val (.int F_), .val (.int (1 : Int32)), .val (.ref b103), .val (.long (x1 &&& (9223372036854775807 : Int64))), .second, .val (.long (x2 &&& (9223372036854775807 : Int64))), .second, .val (.long x0), .second, .val (.long (x0 + (x2 &&& (9223372036854775807 : Int64)))), .second, .val (.long ((F_.toInt64) * (1000000 : Int64))), .second, .val (.int (1 : Int32))] [(.ref b103)])) _
            refine XS.lload X121.here hx rfl (hb hby at_155) rfl ?_
            show Steps p.tables e below (T121.setTop (mkF m 157 #[.val (.long x0), .second, .val (.long x1), .second, .val (.long x2), .second, .val (.int x3), .val (.int x4), .val (.int (x4 &&& (3 : Int32))), .val (.int F_), .val (.int (1 : Int32)), .val (.ref b103), .val (.long (x1 &&& (9223372036854775807 : Int64))), .second, .val (.long (x2 &&& (9223372036854775807 : Int64))), .second, .val (.long x0), .second, .val (.long (x0 + (x2 &&& (9223372036854775807 : Int64)))), .second, .val (.long ((F_.toInt64) * (1000000 : Int64))), .second, .val (.int (1 : Int32))] [(.long (x0 + (x2 &&& (9223372036854775807 : Int64)))), (.ref b103)])) _
            refine st124.trans ?_
            show Steps p.tables e below (T124.setTop (mkF m 160 #[.val (.long x0), .second, .val (.long x1), .second, .val (.long x2), .second, .val (.int x3), .val (.int x4), .val (.int (x4 &&& (3 : Int32))), .val (.int F_), .val (.int (1 : Int32)), .val (.ref b103), .val (.long (x1 &&& (9223372036854775807 : Int64))), .second, .val (.long (x2 &&& (9223372036854775807 : Int64))), .second, .val (.long x0), .second, .val (.long (x0 + (x2 &&& (9223372036854775807 : Int64)))), .second, .val (.long ((F_.toInt64) * (1000000 : Int64))), .second, .val (.int (1 : Int32))] [(.int (1 : Int32))])) _
            refine XS.iload X124.here hx rfl (hb hby at_160) rfl ?_
            show Steps p.tables e below (T124.setTop (mkF m 162 #[.val (.long x0), .second, .val (.long x1), .second, .val (.long x2), .second, .val (.int x3), .val (.int x4), .val (.int (x4 &&& (3 : Int32))), .val (.int F_), .val (.int (1 : Int32)), .val (.ref b103), .val (.long (x1 &&& (9223372036854775807 : Int64))), .second, .val (.long (x2 &&& (9223372036854775807 : Int64))), .second, .val (.long x0), .second, .val (.long (x0 + (x2 &&& (9223372036854775807 : Int64)))), .second, .val (.long ((F_.toInt64) * (1000000 : Int64))), .second, .val (.int (1 : Int32))] [(.int (1 : Int32)), (.int (1 : Int32))])) _
            refine XS.icmpNo X124.here hx rfl (hb hby at_162) rfl (teq (by decide : (1 : Int32) = (1 : Int32))).2 ?_
            show Steps p.tables e below (T124.setTop (mkF m 165 #[.val (.long x0), .second, .val (.long x1), .second, .val (.long x2), .second, .val (.int x3), .val (.int x4), .val (.int (x4 &&& (3 : Int32))), .val (.int F_), .val (.int (1 : Int32)), .val (.ref b103), .val (.long (x1 &&& (9223372036854775807 : Int64))), .second, .val (.long (x2 &&& (9223372036854775807 : Int64))), .second, .val (.long x0), .second, .val (.long (x0 + (x2 &&& (9223372036854775807 : Int64)))), .second, .val (.long ((F_.toInt64) * (1000000 : Int64))), .second, .val (.int (1 : Int32))] [])) _
            refine XS.iconst X124.here hx rfl (hb hby at_165) ?_
            show Steps p.tables e below (T124.setTop (mkF m 166 #[.val (.long x0), .second, .val (.long x1), .second, .val (.long x2), .second, .val (.int x3), .val (.int x4), .val (.int (x4 &&& (3 : Int32))), .val (.int F_), .val (.int (1 : Int32)), .val (.ref b103), .val (.long (x1 &&& (9223372036854775807 : Int64))), .second, .val (.long (x2 &&& (9223372036854775807 : Int64))), .second, .val (.long x0), .second, .val (.long (x0 + (x2 &&& (9223372036854775807 : Int64)))), .second, .val (.long ((F_.toInt64) * (1000000 : Int64))), .second, .val (.int (1 : Int32))] [(.int (1 : Int32))])) _
            refine XS.goto X124.here hx rfl (pc0 := 166) (pc' := 170) rfl (hb hby at_166) (by decide) (by decide) ?_
            show Steps p.tables e below (T124.setTop (mkF m 170 #[.val (.long x0), .second, .val (.long x1), .second, .val (.long x2), .second, .val (.int x3), .val (.int x4), .val (.int (x4 &&& (3 : Int32))), .val (.int F_), .val (.int (1 : Int32)), .val (.ref b103), .val (.long (x1 &&& (9223372036854775807 : Int64))), .second, .val (.long (x2 &&& (9223372036854775807 : Int64))), .second, .val (.long x0), .second, .val (.long (x0 + (x2 &&& (9223372036854775807 : Int64)))), .second, .val (.long ((F_.toInt64) * (1000000 : Int64))), .second, .val (.int (1 : Int32))] [(.int (1 : Int32))])) _
            exact retN X124 hx (t := .boolean) Bd.returns (by simp) (hb hby at_170) hr
          · show Q_0 Z x0 x1 x2 x3 x4 F_ tu cl ca h0 n0 _ T124.heap _
            rw [e124q]
            exact ⟨rfl, N124⟩
        · skip
          obtain ⟨cq125, kq125, q125a, q125b, q125c⟩ := isOf hZ rfl E121q
          obtain ⟨_, _, ⟨T125, L125, k125, n125⟩, -, X125, ⟨Lc125, hQ125, l125, y125, z125⟩, st125⟩ := X121.virtualBack hx (y := (⟨"com/example/gated_chorus/gatedchorus/limit/Kicks", "isBanned", "(J)Z"⟩ : MethodName)) (z := (⟨"com/example/gated_chorus/gatedchorus/limit/Kicks", "isBanned", "(J)Z"⟩ : MethodName)) hown (mvT hZ (hw _ (List.mem_of_getElem? (i := 144) rfl))) (mvT hZ (hw _ (List.mem_of_getElem? (i := 145) rfl))) (notFace_of_selects (args := #[]) (mvT hZ (hw _ (List.mem_of_getElem? (i := 147) rfl)))) (mvT hZ (hw _ (List.mem_of_getElem? (i := 147) rfl))) (mvT hZ (hw _ (List.mem_of_getElem? (i := 146) rfl))) (by decide) (backOf (W := 0) (rm_20o l Z a0 hw [] b103 (x0 + (x2 &&& (9223372036854775807 : Int64))) (x0 + ((F_.toInt64) * (1000000 : Int64))) (0 : Int32) T121.heap n0 Z121 F2121q F3121q (if_neg (mt (own_cmp x0 (x2 &&& (9223372036854775807 : Int64)) ((F_.toInt64) * (1000000 : Int64)) hel hfn0 hfn1).1 hc123))) hZ (hw _ (List.mem_of_getElem? (i := 148) rfl)) (hw _ (List.mem_of_getElem? (i := 7) rfl)) (by decide) (by decide)) q125a q125c (g := (mkF m 157 #[.val (.long x0), .second, .val (.long x1), .second, .val (.long x2), .second, .val (.int x3), .val (.int x4), .val (.int (x4 &&& (3 : Int32))), .val (.int F_), .val (.int (1 : Int32)), .val (.ref b103), .val (.long (x1 &&& (9223372036854775807 : Int64))), .second, .val (.long (x2 &&& (9223372036854775807 : Int64))), .second, .val (.long x0), .second, .val (.long (x0 + (x2 &&& (9223372036854775807 : Int64)))), .second, .val (.long ((F_.toInt64) * (1000000 : Int64))), .second, .val (.int (0 : Int32))] [(.long (x0 + (x2 &&& (9223372036854775807 : Int64)))), (.ref b103)])) rfl (by rw [hml]; rfl) (Steps.refl _) (argsL := [(.long (x0 + (x2 &&& (9223372036854775807 : Int64))))]) (rest := []) (lenOf pd__J_Z rfl) rfl (by show 2 * 0 + _ ≤ _; exact Nat.le_of_eq rfl) (hb hby at_157) (fun _ _ => ⟨rfl, rfl, (by decide : 5 + 0 ≤ _), (by decide : 30 + 0 ≤ _)⟩)
          dsimp only [Pt.U, Pt.locs, Pt.cells, Pt.slots] at X125 l125 y125 z125 st125 hQ125
          subst l125 y125 z125
          obtain ⟨rfl, N125q, e125q⟩ := hQ125
          have N125 := Fr.app N121 N125q
          obtain ⟨fs, hr, hrun, hended, hW, hsame⟩ := X125.leave (v := some (.int (1 : Int32))) (fun h => by rw [Bd.returns] at h; cases h)
          refine ⟨_, _, pw122 _ ?_, hrun, hended, _, _, rfl, ?_, ⟨_, rfl⟩, hW, hsame.mono (by decide) (by decide)⟩
          · skip
            refine XS.ifYes X121.here hx rfl (pc0 := 143) (pc' := 150) rfl (hb hby at_143) rfl ((if0 _ _).trans (flt (mt (lw_lt (x2 &&& (9223372036854775807 : Int64)) ((F_.toInt64) * (1000000 : Int64))).1 hc123)).2.1) (by decide) (by decide) ?_
            show Steps p.tables e below (T121.setTop (mkF m 150 #[.val (.long x0), .second, .val (.long x1), .second, .val (.long x2), .second, .val (.int x3), .val (.int x4), .val (.int (x4 &&& (3 : Int32))), .val (.int F_), .val (.int (1 : Int32)), .val (.ref b103), .val (.long (x1 &&& (9223372036854775807 : Int64))), .second, .val (.long (x2 &&& (9223372036854775807 : Int64))), .second, .val (.long x0), .second, .val (.long (x0 + (x2 &&& (9223372036854775807 : Int64)))), .second, .val (.long ((F_.toInt64) * (1000000 : Int64))), .second, .unset] [])) _
            refine XS.iconst X121.here hx rfl (hb hby at_150) ?_
            show Steps p.tables e below (T121.setTop (mkF m 151 #[.val (.long x0), .second, .val (.long x1), .second, .val (.long x2), .second, .val (.int x3), .val (.int x4), .val (.int (x4 &&& (3 : Int32))), .val (.int F_), .val (.int (1 : Int32)), .val (.ref b103), .val (.long (x1 &&& (9223372036854775807 : Int64))), .second, .val (.long (x2 &&& (9223372036854775807 : Int64))), .second, .val (.long x0), .second, .val (.long (x0 + (x2 &&& (9223372036854775807 : Int64)))), .second, .val (.long ((F_.toInt64) * (1000000 : Int64))), .second, .unset] [(.int (0 : Int32))])) _
            refine XS.istore X121.here hx rfl (hb hby at_151) rfl (l' := #[.val (.long x0), .second, .val (.long x1), .second, .val (.long x2), .second, .val (.int x3), .val (.int x4), .val (.int (x4 &&& (3 : Int32))), .val (.int F_), .val (.int (1 : Int32)), .val (.ref b103), .val (.long (x1 &&& (9223372036854775807 : Int64))), .second, .val (.long (x2 &&& (9223372036854775807 : Int64))), .second, .val (.long x0), .second, .val (.long (x0 + (x2 &&& (9223372036854775807 : Int64)))), .second, .val (.long ((F_.toInt64) * (1000000 : Int64))), .second, .val (.int (0 : Int32))]) rfl ?_
            show Steps p.tables e below (T121.setTop (mkF m 153 #[.val (.long x0), .second, .val (.long x1), .second, .val (.long x2), .second, .val (.int x3), .val (.int x4), .val (.int (x4 &&& (3 : Int32))), .val (.int F_), .val (.int (1 : Int32)), .val (.ref b103), .val (.long (x1 &&& (9223372036854775807 : Int64))), .second, .val (.long (x2 &&& (9223372036854775807 : Int64))), .second, .val (.long x0), .second, .val (.long (x0 + (x2 &&& (9223372036854775807 : Int64)))), .second, .val (.long ((F_.toInt64) * (1000000 : Int64))), .second, .val (.int (0 : Int32))] [])) _
            refine XS.aload X121.here hx rfl (hb hby at_153) rfl rfl ?_
            show Steps p.tables e below (T121.setTop (mkF m 155 #[.val (.long x0), .second, .val (.long x1), .second, .val (.long x2), .second, .val (.int x3), .val (.int x4), .val (.int (x4 &&& (3 : Int32))), .val (.int F_), .val (.int (1 : Int32)), .val (.ref b103), .val (.long (x1 &&& (9223372036854775807 : Int64))), .second, .val (.long (x2 &&& (9223372036854775807 : Int64))), .second, .val (.long x0), .second, .val (.long (x0 + (x2 &&& (9223372036854775807 : Int64)))), .second, .val (.long ((F_.toInt64) * (1000000 : Int64))), .second, .val (.int (0 : Int32))] [(.ref b103)])) _
            refine XS.lload X121.here hx rfl (hb hby at_155) rfl ?_
            show Steps p.tables e below (T121.setTop (mkF m 157 #[.val (.long x0), .second, .val (.long x1), .second, .val (.long x2), .second, .val (.int x3), .val (.int x4), .val (.int (x4 &&& (3 : Int32))), .val (.int F_), .val (.int (1 : Int32)), .val (.ref b103), .val (.long (x1 &&& (9223372036854775807 : Int64))), .second, .val (.long (x2 &&& (9223372036854775807 : Int64))), .second, .val (.long x0), .second, .val (.long (x0 + (x2 &&& (9223372036854775807 : Int64)))), .second, .val (.long ((F_.toInt64) * (1000000 : Int64))), .second, .val (.int (0 : Int32))] [(.long (x0 + (x2 &&& (9223372036854775807 : Int64)))), (.ref b103)])) _
            refine st125.trans ?_
            show Steps p.tables e below (T125.setTop (mkF m 160 #[.val (.long x0), .second, .val (.long x1), .second, .val (.long x2), .second, .val (.int x3), .val (.int x4), .val (.int (x4 &&& (3 : Int32))), .val (.int F_), .val (.int (1 : Int32)), .val (.ref b103), .val (.long (x1 &&& (9223372036854775807 : Int64))), .second, .val (.long (x2 &&& (9223372036854775807 : Int64))), .second, .val (.long x0), .second, .val (.long (x0 + (x2 &&& (9223372036854775807 : Int64)))), .second, .val (.long ((F_.toInt64) * (1000000 : Int64))), .second, .val (.int (0 : Int32))] [(.int (0 : Int32))])) _
            refine XS.iload X125.here hx rfl (hb hby at_160) rfl ?_
            show Steps p.tables e below (T125.setTop (mkF m 162 #[.val (.long x0), .second, .val (.long x1), .second, .val (.long x2), .second, .val (.int x3), .val (.int x4), .val (.int (x4 &&& (3 : Int32))), .val (.int F_), .val (.int (1 : Int32)), .val (.ref b103), .val (.long (x1 &&& (9223372036854775807 : Int64))), .second, .val (.long (x2 &&& (9223372036854775807 : Int64))), .second, .val (.long x0), .second, .val (.long (x0 + (x2 &&& (9223372036854775807 : Int64)))), .second, .val (.long ((F_.toInt64) * (1000000 : Int64))), .second, .val (.int (0 : Int32))] [(.int (0 : Int32)), (.int (0 : Int32))])) _
            refine XS.icmpNo X125.here hx rfl (hb hby at_162) rfl (teq (by decide : (0 : Int32) = (0 : Int32))).2 ?_
            show Steps p.tables e below (T125.setTop (mkF m 165 #[.val (.long x0), .second, .val (.long x1), .second, .val (.long x2), .second, .val (.int x3), .val (.int x4), .val (.int (x4 &&& (3 : Int32))), .val (.int F_), .val (.int (1 : Int32)), .val (.ref b103), .val (.long (x1 &&& (9223372036854775807 : Int64))), .second, .val (.long (x2 &&& (9223372036854775807 : Int64))), .second, .val (.long x0), .second, .val (.long (x0 + (x2 &&& (9223372036854775807 : Int64)))), .second, .val (.long ((F_.toInt64) * (1000000 : Int64))), .second, .val (.int (0 : Int32))] [])) _
            refine XS.iconst X125.here hx rfl (hb hby at_165) ?_
            show Steps p.tables e below (T125.setTop (mkF m 166 #[.val (.long x0), .second, .val (.long x1), .second, .val (.long x2), .second, .val (.int x3), .val (.int x4), .val (.int (x4 &&& (3 : Int32))), .val (.int F_), .val (.int (1 : Int32)), .val (.ref b103), .val (.long (x1 &&& (9223372036854775807 : Int64))), .second, .val (.long (x2 &&& (9223372036854775807 : Int64))), .second, .val (.long x0), .second, .val (.long (x0 + (x2 &&& (9223372036854775807 : Int64)))), .second, .val (.long ((F_.toInt64) * (1000000 : Int64))), .second, .val (.int (0 : Int32))] [(.int (1 : Int32))])) _
            refine XS.goto X125.here hx rfl (pc0 := 166) (pc' := 170) rfl (hb hby at_166) (by decide) (by decide) ?_
            show Steps p.tables e below (T125.setTop (mkF m 170 #[.val (.long x0), .second, .val (.long x1), .second, .val (.long x2), .second, .val (.int x3), .val (.int x4), .val (.int (x4 &&& (3 : Int32))), .val (.int F_), .val (.int (1 : Int32)), .val (.ref b103), .val (.long (x1 &&& (9223372036854775807 : Int64))), .second, .val (.long (x2 &&& (9223372036854775807 : Int64))), .second, .val (.long x0), .second, .val (.long (x0 + (x2 &&& (9223372036854775807 : Int64)))), .second, .val (.long ((F_.toInt64) * (1000000 : Int64))), .second, .val (.int (0 : Int32))] [(.int (1 : Int32))])) _
            exact retN X125 hx (t := .boolean) Bd.returns (by simp) (hb hby at_170) hr
          · show Q_0 Z x0 x1 x2 x3 x4 F_ tu cl ca h0 n0 _ T125.heap _
            rw [e125q]
            exact ⟨rfl, N125⟩
set_option maxRecDepth 65536 in
set_option maxHeartbeats 40000000 in
theorem comes_1 {Post : Tables → Env → Array Value → State → Outcome → State → Prop} (hpost : ∀ tb e args s v u, (limb_1_1.after args s (.returned v) u = true ∧ limb_1_2.after args s (.returned v) u = true ∧ True) → FrameEnd s (.returned v) u (Jvm.fieldLocs frame_1_writes args s ++ Jvm.arrayLocs frame_1_arrays args s ++ Jvm.staticLocs frame_1_statics s) 24 128 → Post tb e args s (.returned v) u) :
    ArmFor flags0 classFile x code maxLocals ret World_1 tables_1 room_1 Calls_1 rest_1 Pre_1 Post := by
  intro l hfl _ _ p e ha hc hk s m args below hf hA hF happ hP
  obtain ⟨hcalls, hrest, hpre⟩ := hP
  obtain ⟨-, -, -, hnamed, -, -, -, hat⟩ := (Spec.applies_iff hf).mp happ
  obtain ⟨hg, hn⟩ := and_e (Cond.before_iff.mp (show (Jvm.Cond.and given_1 narrow_1).before args s = true from hpre))
  obtain ⟨g126, g127⟩ := and_e hg
  obtain ⟨g128, g129⟩ := and_e g127
  obtain ⟨g130, g131⟩ := and_e g129
  obtain ⟨g132, g133⟩ := and_e g131
  obtain ⟨g134, g135⟩ := and_e g133
  obtain ⟨w0, w1, w2, w3, w4, rfl⟩ : ∃ w0 w1 w2 w3 w4 : Value, args = #[w0, w1, w2, w3, w4] := by
    have hs : args.size = 5 := by simpa [Cond.value, given_1] using g126
    obtain ⟨L⟩ := args
    match L, hs with
    | [w0, w1, w2, w3, w4], _ => exact ⟨w0, w1, w2, w3, w4, rfl⟩
  have hw := fun d (hd : d ∈ tables_1) => atoms_spec (ws := Jvm.Cond.code x code maxLocals ret :: tables_1) hat d (List.mem_cons_of_mem _ hd)
  have hfit : Fit s := fun {y c} hc i hi => by
    obtain ⟨ha, rfl⟩ := Array.getElem?_eq_some_iff.mp hc
    have q := List.all_eq_true.mp ((Array.all_eq_true_iff_forall_mem.mp hF) _ (Array.getElem_mem ha)) i (List.mem_range.mpr hi)
    simpa [Array.getElem?_eq_getElem hi] using q
  obtain ⟨hsets, hown0⟩ := atoms_of _ (rest_1_c_eq ▸ (show rest_1_c.before _ s = true from hrest))
  have hr0 := Cond.before_iff.mp hown0
  obtain ⟨x0, ei0⟩ := isL_v g128
  obtain rfl : w0 = (.long x0) := Option.some.inj ei0
  obtain ⟨x1, ei1⟩ := isL_v g130
  obtain rfl : w1 = (.long x1) := Option.some.inj ei1
  obtain ⟨x2, ei2⟩ := isL_v g132
  obtain rfl : w2 = (.long x2) := Option.some.inj ei2
  obtain ⟨x3, ei3⟩ := is_v g134
  obtain rfl : w3 = (.int x3) := Option.some.inj ei3
  obtain ⟨x4, ei4⟩ := is_v g135
  obtain rfl : w4 = (.int x4) := Option.some.inj ei4
  obtain ⟨tu, evt⟩ := exa_v (Cond.before_iff.mp (hsets _ (List.mem_of_getElem? (i := 2) rfl)))
  have E_tu : Exa s s.heap tu "java/util/concurrent/TimeUnit" := Exa.start evt (Cond.before_iff.mp (hsets _ (List.mem_of_getElem? (i := 2) rfl)))
  have S_ms : Sta s s.heap "java/util/concurrent/TimeUnit" "MILLISECONDS" "Ljava/util/concurrent/TimeUnit;" (.ref tu) := Sta.start evt (Or.inl (hsets _ (List.mem_of_getElem? (i := 1) rfl)))
  have F_s : Fld s s.heap tu "java/util/concurrent/TimeUnit" "scale" "J" (.long (1000000 : Int64)) := Fld.start ((fld_at evt).symm.trans (eqv_l rfl (Cond.before_iff.mp (hsets _ (List.mem_of_getElem? (i := 5) rfl)))))
  have F_m : Fld s s.heap tu "java/util/concurrent/TimeUnit" "maxNanos" "J" (.long (9223372036854 : Int64)) := Fld.start ((fld_at evt).symm.trans (eqv_l rfl (Cond.before_iff.mp (hsets _ (List.mem_of_getElem? (i := 6) rfl)))))
  obtain ⟨ca, evc⟩ := arr_v (Cond.before_iff.mp (hsets _ (List.mem_of_getElem? (i := 15) rfl)))
  have S_c : Sta s s.heap "java/lang/Long$LongCache" "cache" "[Ljava/lang/Long;" (.ref ca) := Sta.start evc (Or.inl (hsets _ (List.mem_of_getElem? (i := 14) rfl)))
  obtain ⟨cl, Ar_c⟩ := Arr.start evc (Cond.before_iff.mp (hsets _ (List.mem_of_getElem? (i := 15) rfl)))
  obtain ⟨hq1, hq2⟩ := own_len Ar_c evc (Cond.before_iff.mp (hsets _ (List.mem_of_getElem? (i := 17) rfl)))
  have hB := Bxs.start (K := "java/lang/Long") (d := "J") (z := 256) (val := fun j => .long (j.toNatClampNeg.toInt32 - 128).toInt64) (fun _ => evc) Ar_c hq1 hq2 (by decide) (Cond.before_iff.mp (hsets _ (List.mem_of_getElem? (i := 18) rfl))) (fun X j _ h => eqv_l (i2l_at (by simp [Term.eval])) h)
  have hsz : cl.slots.size = 256 := hB.2.1.trans (by decide)
  have hcache : ∀ j : Int32, ¬ (j < 0 ∨ cl.slots.size ≤ j.toNatClampNeg) → ∃ b, cl.slots[j.toNatClampNeg]? = some (.ref b) ∧ Exa s s.heap b "java/lang/Long" := fun j hj => by obtain ⟨b, q1, q2, -⟩ := hB.2.2.2 j hj; exact ⟨b, q1, q2⟩
  have hfn := own_fn _ (own_maxR x3)
  have hm1 := own_maxR x3
  have hr1 := rng32 (own_max 1 (x3 &&& 2147483647))
  obtain ⟨n, o, h1, h2, h3, _, L, rfl, ⟨rfl, N⟩, hq⟩ := rm_0 l s _ hw tables_1 x0 x1 x2 x3 x4 _ tu cl ca s.heap s.heap.size (Nat.le_refl _) rfl S_ms E_tu F_s F_m S_c Ar_c hsz hcache (own_md x4) (own_and63 x2) (by rw [hfn]; omega) (by rw [hfn]; omega) p e ha hc hk s m _ below hf ((Spec.applies_iff_loose hf).mp happ).1 ⟨rfl, State.Warmed39.refl s, rfl⟩ trivial
  refine ⟨n, _, h1, h2, h3, hpost _ _ _ _ _ _ ⟨Cond.after_iff.mpr rfl, Cond.after_iff.mpr (eq_i res_at (Term.int_eval (1)) rfl), trivial⟩ ⟨hq.1, hq.2.1, (hq.2.2.sift fun y hy => Or.inr (N y hy)).mono (by decide) (by decide)⟩⟩
theorem main_1_1 : Claimed_1_1 := comes_1 fun _ _ _ _ _ _ h hF => ⟨h.1, hF⟩
theorem main_1_2 : Claimed_1_2 := comes_1 fun _ _ _ _ _ _ h hF => ⟨h.2.1, hF⟩
end Jvm.Pilot.@@N@@
namespace Jvm.Pilot.@@N@@
open Jvm Jvm.ClassFile Sem Op Lib Jvm.Free Jvm.Stand Jvm.Pilot.@@N@@.Jvm.D
/-! MADE BY PROGRAM (witnessworld.py) out of the Statement's table words and the real class files: 28 classes; the members and pool entries that the words name. The judged class is class 1, her method 1. -/
namespace start1
open Jvm.ClassFile
def u (s : String) : CpInfo := .utf8 (stringToUtf16 s)
/-- a pool by its gaps: so many unusable entries, then the entry; so many at the end -/
def gap : Nat → List CpInfo → List CpInfo
  | 0, r => r
  | n + 1, r => .unusable :: gap n r
def poolList (es : List (Nat × CpInfo)) (last : Nat) : List CpInfo := es.foldr (fun e r => gap e.1 (e.2 :: r)) (gap last [])
def pool (es : List (Nat × CpInfo)) (last : Nat) : Array CpInfo := ⟨poolList es last⟩
def fileOf (pool : Array CpInfo) (this : Nat) (attrs : Array Attribute := #[]) (ms : Array MethodInfo := #[]) (fl : Nat := 33) (sup : Nat := 0) (ifs : Array Nat := #[]) (fds : Array FieldInfo := #[]) : ClassFile where
  minorVersion := 0
  majorVersion := 65
  constantPool := pool
  accessFlags := fl
  thisClass := this
  superClass := sup
  interfaces := ifs
  fields := fds
  methods := ms
  attributes := attrs
def plain (name : String) (sup : Option ClassId) : Class where
  name := name
  kind := .ordinary
  loader := none
  accessFlags := 33
  super := sup
  interfaces := #[]
  cf := none
  fields := #[]
  methods := #[]
  instanceTypes := #[]
  staticTypes := #[]
  resolved := #[]
  callSites := []
  init := .initialized
  statics := none
  mirror := none

def pool0 : Array CpInfo := pool [(5, u "<init>"), (0, u "()V"), (1, .class_ 10), (1, u "java/lang/Object")] 113

def k0c0 : Code := { maxStack := 0, maxLocals := 1, code := object_method_1_code, exceptionTable := #[], attributes := #[] }
def k0m0 : Method := { name := "<init>", desc := "()V", sig := { parameters := [], returnType := none }, accessFlags := 1, code := some k0c0 }
/-- java/lang/Object -/
def k0 : Class := { plain "java/lang/Object" none with
  accessFlags := 33
  interfaces := #[]
  cf := some (fileOf pool0 8 #[] #[{ accessFlags := 1, nameIndex := 5, descriptorIndex := 6, attributes := #[] }] 33 0 #[] #[])
  fields := #[]
  methods := #[k0m0]
  instanceTypes := #[]
  staticTypes := #[]
  resolved := Array.replicate 124 none
  statics := none }

def pool1 : Array CpInfo := pool [(2, .class_ 4), (1, u "java/lang/Object"), (0, u "<init>"), (0, u "()V"), (0, .integer 2147483647), (0, .methodref 9 10), (0, .class_ 11), (0, .nameAndType 12 13), (0, u "java/lang/Math"), (0, u "max"), (0, u "(II)I"), (0, .class_ 15), (0, u "com/example/gated_chorus/gatedchorus/limit/Kicks"), (0, .class_ 17), (0, u "com/example/gated_chorus/gatedchorus/limit/Ban"), (0, .methodref 16 19), (0, .nameAndType 5 20), (0, u "(III)V"), (0, .methodref 14 22), (0, .nameAndType 5 23), (0, u "(Lcom/example/gated_chorus/gatedchorus/limit/Ban;)V"), (2, .long 9223372036854775807), (1, .methodref 14 29), (0, .nameAndType 30 31), (0, u "kick"), (0, u "(J)Z"), (0, .long 1000000), (1, .methodref 14 35), (0, .nameAndType 36 31), (0, u "isBanned"), (0, .class_ 38), (0, u "com/example/gated_chorus/gatedchorus/limit/KicksIsBannedPinLaw"), (2, u "law"), (0, u "(JJJII)Z")] 3

def k1m0 : Method := { name := "<init>", desc := "()V", sig := { parameters := [], returnType := none }, accessFlags := 1, code := none }
def k1c1 : Code := { maxStack := 7, maxLocals := 23, code := code, exceptionTable := #[], attributes := #[] }
def k1m1 : Method := { name := "law", desc := "(JJJII)Z", sig := { parameters := [.long, .long, .long, .int, .int], returnType := some .boolean }, accessFlags := 9, code := some k1c1 }
/-- com/example/gated_chorus/gatedchorus/limit/KicksIsBannedPinLaw -/
def k1 : Class := { plain "com/example/gated_chorus/gatedchorus/limit/KicksIsBannedPinLaw" (some 0) with
  accessFlags := 49
  interfaces := #[]
  cf := some (fileOf pool1 37 #[] #[{ accessFlags := 1, nameIndex := 5, descriptorIndex := 6, attributes := #[] }, { accessFlags := 9, nameIndex := 41, descriptorIndex := 42, attributes := #[] }] 49 2 #[] #[])
  fields := #[]
  methods := #[k1m0, k1m1]
  instanceTypes := #[]
  staticTypes := #[]
  resolved := Array.replicate 46 none
  statics := none }

def pool2 : Array CpInfo := pool [(1, .class_ 2), (0, u "java/lang/Math"), (1, .class_ 6), (1, u "java/lang/Object"), (0, u "<init>"), (0, u "()V"), (89, .class_ 100), (1, u "java/lang/Math$RandomNumberGeneratorHolder"), (71, u "negativeZeroFloatBits"), (0, u "J"), (2, u "negativeZeroDoubleBits"), (21, u "max"), (46, u "$assertionsDisabled"), (0, u "Z"), (88, u "(II)I"), (2, u "twoToTheDoubleScaleDown"), (0, u "D"), (4, u "twoToTheDoubleScaleUp"), (9, u "E"), (3, u "PI"), (2, u "TAU"), (2, u "DEGREES_TO_RADIANS"), (0, u "RADIANS_TO_DEGREES")] 94

def k2m0 : Method := { name := "<init>", desc := "()V", sig := { parameters := [], returnType := none }, accessFlags := 2, code := none }
def k2c1 : Code := { maxStack := 2, maxLocals := 2, code := jdk_29_method_65_code, exceptionTable := #[], attributes := #[] }
def k2m1 : Method := { name := "max", desc := "(II)I", sig := { parameters := [.int, .int], returnType := some .int }, accessFlags := 9, code := some k2c1 }
/-- java/lang/Math -/
def k2 : Class := { plain "java/lang/Math" (some 0) with
  accessFlags := 49
  interfaces := #[]
  cf := some (fileOf pool2 1 #[.nestMembers #[98]] #[{ accessFlags := 2, nameIndex := 7, descriptorIndex := 8, attributes := #[] }, { accessFlags := 9, nameIndex := 198, descriptorIndex := 335, attributes := #[] }] 49 4 #[] #[{ accessFlags := 25, nameIndex := 354, descriptorIndex := 339, attributes := #[] }, { accessFlags := 25, nameIndex := 358, descriptorIndex := 339, attributes := #[] }, { accessFlags := 25, nameIndex := 361, descriptorIndex := 339, attributes := #[] }, { accessFlags := 26, nameIndex := 364, descriptorIndex := 339, attributes := #[] }, { accessFlags := 26, nameIndex := 365, descriptorIndex := 339, attributes := #[] }, { accessFlags := 26, nameIndex := 172, descriptorIndex := 173, attributes := #[] }, { accessFlags := 26, nameIndex := 176, descriptorIndex := 173, attributes := #[] }, { accessFlags := 8, nameIndex := 344, descriptorIndex := 339, attributes := #[] }, { accessFlags := 8, nameIndex := 338, descriptorIndex := 339, attributes := #[] }, { accessFlags := 4120, nameIndex := 245, descriptorIndex := 246, attributes := #[] }])
  fields := #[{ name := "E", type := .double, accessFlags := 25, slot := 0, constantValue := 0 }, { name := "PI", type := .double, accessFlags := 25, slot := 1, constantValue := 0 }, { name := "TAU", type := .double, accessFlags := 25, slot := 2, constantValue := 0 }, { name := "DEGREES_TO_RADIANS", type := .double, accessFlags := 26, slot := 3, constantValue := 0 }, { name := "RADIANS_TO_DEGREES", type := .double, accessFlags := 26, slot := 4, constantValue := 0 }, { name := "negativeZeroFloatBits", type := .long, accessFlags := 26, slot := 5, constantValue := 0 }, { name := "negativeZeroDoubleBits", type := .long, accessFlags := 26, slot := 6, constantValue := 0 }, { name := "twoToTheDoubleScaleUp", type := .double, accessFlags := 8, slot := 7, constantValue := 0 }, { name := "twoToTheDoubleScaleDown", type := .double, accessFlags := 8, slot := 8, constantValue := 0 }, { name := "$assertionsDisabled", type := .boolean, accessFlags := 4120, slot := 9, constantValue := 0 }]
  methods := #[k2m0, k2m1]
  instanceTypes := #[]
  staticTypes := #[.double, .double, .double, .double, .double, .long, .long, .double, .double, .boolean]
  resolved := Array.replicate 460 none
  statics := none }

def pool3 : Array CpInfo := pool [(1, .methodref 2 3), (0, .class_ 4), (0, .nameAndType 5 6), (0, u "java/lang/Object"), (0, u "<init>"), (0, u "()V"), (0, .class_ 8), (0, u "java/util/ArrayDeque"), (0, .methodref 7 3), (0, .fieldref 11 12), (0, .class_ 13), (0, .nameAndType 14 15), (0, u "com/example/gated_chorus/gatedchorus/limit/Kicks"), (0, u "times"), (0, u "Ljava/util/Deque;"), (0, .methodref 17 18), (0, .class_ 19), (0, .nameAndType 20 21), (0, u "com/example/gated_chorus/gatedchorus/limit/Ban"), (0, u "kicks"), (0, u "()I"), (0, .fieldref 11 23), (0, .nameAndType 20 24), (0, u "I"), (0, .fieldref 26 27), (0, .class_ 28), (0, .nameAndType 29 30), (0, u "java/util/concurrent/TimeUnit"), (0, u "MILLISECONDS"), (0, u "Ljava/util/concurrent/TimeUnit;"), (0, .methodref 17 32), (0, .nameAndType 33 21), (0, u "withinMs"), (0, .methodref 26 35), (0, .nameAndType 36 37), (0, u "toNanos"), (0, u "(J)J"), (0, .fieldref 11 39), (0, .nameAndType 40 41), (0, u "withinNanos"), (0, u "J"), (0, .methodref 17 43), (0, .nameAndType 44 21), (0, u "forMs"), (0, .fieldref 11 46), (0, .nameAndType 47 41), (0, u "forNanos"), (0, .interfaceMethodref 49 50), (0, .class_ 51), (0, .nameAndType 52 53), (0, u "java/util/Deque"), (0, u "isEmpty"), (0, u "()Z"), (4, .class_ 59), (0, u "java/lang/Long"), (7, .methodref 58 68), (0, .nameAndType 69 70), (0, u "valueOf"), (0, u "(J)Ljava/lang/Long;"), (0, .interfaceMethodref 49 72), (0, .nameAndType 73 74), (0, u "addLast"), (0, u "(Ljava/lang/Object;)V"), (0, .interfaceMethodref 49 76), (0, .nameAndType 77 21), (0, u "size"), (0, .interfaceMethodref 49 79), (0, .nameAndType 80 6), (0, u "clear"), (0, .fieldref 11 82), (0, .nameAndType 83 84), (0, u "banned"), (0, u "Z"), (0, .fieldref 11 86), (0, .nameAndType 87 41), (0, u "bannedUntil"), (5, u "isBanned"), (0, u "(J)Z"), (2, u "(Lcom/example/gated_chorus/gatedchorus/limit/Ban;)V"), (2, u "kick")] 4

def k3c0 : Code := { maxStack := 4, maxLocals := 2, code := prog_17_method_1_code, exceptionTable := #[], attributes := #[] }
def k3m0 : Method := { name := "<init>", desc := "(Lcom/example/gated_chorus/gatedchorus/limit/Ban;)V", sig := { parameters := [(.object "com/example/gated_chorus/gatedchorus/limit/Ban")], returnType := none }, accessFlags := 1, code := some k3c0 }
def k3c1 : Code := { maxStack := 5, maxLocals := 3, code := prog_17_method_2_code, exceptionTable := #[], attributes := #[] }
def k3m1 : Method := { name := "kick", desc := "(J)Z", sig := { parameters := [.long], returnType := some .boolean }, accessFlags := 1, code := some k3c1 }
def k3c2 : Code := { maxStack := 4, maxLocals := 3, code := prog_17_method_3_code, exceptionTable := #[], attributes := #[] }
def k3m2 : Method := { name := "isBanned", desc := "(J)Z", sig := { parameters := [.long], returnType := some .boolean }, accessFlags := 1, code := some k3c2 }
/-- com/example/gated_chorus/gatedchorus/limit/Kicks -/
def k3 : Class := { plain "com/example/gated_chorus/gatedchorus/limit/Kicks" (some 0) with
  accessFlags := 49
  interfaces := #[]
  cf := some (fileOf pool3 11 #[] #[{ accessFlags := 1, nameIndex := 5, descriptorIndex := 97, attributes := #[] }, { accessFlags := 1, nameIndex := 100, descriptorIndex := 94, attributes := #[] }, { accessFlags := 1, nameIndex := 93, descriptorIndex := 94, attributes := #[] }] 49 2 #[] #[{ accessFlags := 18, nameIndex := 20, descriptorIndex := 24, attributes := #[] }, { accessFlags := 18, nameIndex := 40, descriptorIndex := 41, attributes := #[] }, { accessFlags := 18, nameIndex := 47, descriptorIndex := 41, attributes := #[] }, { accessFlags := 18, nameIndex := 14, descriptorIndex := 15, attributes := #[] }, { accessFlags := 2, nameIndex := 83, descriptorIndex := 84, attributes := #[] }, { accessFlags := 2, nameIndex := 87, descriptorIndex := 41, attributes := #[] }])
  fields := #[{ name := "kicks", type := .int, accessFlags := 18, slot := 0, constantValue := 0 }, { name := "withinNanos", type := .long, accessFlags := 18, slot := 1, constantValue := 0 }, { name := "forNanos", type := .long, accessFlags := 18, slot := 2, constantValue := 0 }, { name := "times", type := (.object "java/util/Deque"), accessFlags := 18, slot := 3, constantValue := 0 }, { name := "banned", type := .boolean, accessFlags := 2, slot := 4, constantValue := 0 }, { name := "bannedUntil", type := .long, accessFlags := 2, slot := 5, constantValue := 0 }]
  methods := #[k3m0, k3m1, k3m2]
  instanceTypes := #[.int, .long, .long, (.object "java/util/Deque"), .boolean, .long]
  staticTypes := #[]
  resolved := Array.replicate 105 none
  statics := none }

def pool4 : Array CpInfo := pool [(1, .methodref 2 3), (0, .class_ 4), (0, .nameAndType 5 6), (0, u "java/lang/Object"), (0, u "<init>"), (0, u "()V"), (0, .fieldref 8 9), (0, .class_ 10), (0, .nameAndType 11 12), (0, u "com/example/gated_chorus/gatedchorus/limit/Ban"), (0, u "kicks"), (0, u "I"), (0, .fieldref 8 14), (0, .nameAndType 15 12), (0, u "withinMs"), (0, .fieldref 8 17), (0, .nameAndType 18 12), (0, u "forMs"), (0, u "(III)V"), (2, u "()I")] 2

def k4c0 : Code := { maxStack := 2, maxLocals := 4, code := prog_16_method_1_code, exceptionTable := #[], attributes := #[] }
def k4m0 : Method := { name := "<init>", desc := "(III)V", sig := { parameters := [.int, .int, .int], returnType := none }, accessFlags := 1, code := some k4c0 }
def k4c1 : Code := { maxStack := 1, maxLocals := 1, code := prog_16_method_2_code, exceptionTable := #[], attributes := #[] }
def k4m1 : Method := { name := "kicks", desc := "()I", sig := { parameters := [], returnType := some .int }, accessFlags := 1, code := some k4c1 }
def k4c2 : Code := { maxStack := 1, maxLocals := 1, code := prog_16_method_3_code, exceptionTable := #[], attributes := #[] }
def k4m2 : Method := { name := "withinMs", desc := "()I", sig := { parameters := [], returnType := some .int }, accessFlags := 1, code := some k4c2 }
def k4c3 : Code := { maxStack := 1, maxLocals := 1, code := prog_16_method_4_code, exceptionTable := #[], attributes := #[] }
def k4m3 : Method := { name := "forMs", desc := "()I", sig := { parameters := [], returnType := some .int }, accessFlags := 1, code := some k4c3 }
/-- com/example/gated_chorus/gatedchorus/limit/Ban -/
def k4 : Class := { plain "com/example/gated_chorus/gatedchorus/limit/Ban" (some 0) with
  accessFlags := 49
  interfaces := #[]
  cf := some (fileOf pool4 8 #[] #[{ accessFlags := 1, nameIndex := 5, descriptorIndex := 19, attributes := #[] }, { accessFlags := 1, nameIndex := 11, descriptorIndex := 22, attributes := #[] }, { accessFlags := 1, nameIndex := 15, descriptorIndex := 22, attributes := #[] }, { accessFlags := 1, nameIndex := 18, descriptorIndex := 22, attributes := #[] }] 49 2 #[] #[{ accessFlags := 18, nameIndex := 11, descriptorIndex := 12, attributes := #[] }, { accessFlags := 18, nameIndex := 15, descriptorIndex := 12, attributes := #[] }, { accessFlags := 18, nameIndex := 18, descriptorIndex := 12, attributes := #[] }])
  fields := #[{ name := "kicks", type := .int, accessFlags := 18, slot := 0, constantValue := 0 }, { name := "withinMs", type := .int, accessFlags := 18, slot := 1, constantValue := 0 }, { name := "forMs", type := .int, accessFlags := 18, slot := 2, constantValue := 0 }]
  methods := #[k4m0, k4m1, k4m2, k4m3]
  instanceTypes := #[.int, .int, .int]
  staticTypes := #[]
  resolved := Array.replicate 25 none
  statics := none }

def pool5 : Array CpInfo := pool [(8, .class_ 10), (1, u "java/lang/Iterable"), (24, .class_ 36), (0, u "java/lang/Object")] 25

/-- java/lang/Iterable -/
def k5 : Class := { plain "java/lang/Iterable" (some 0) with
  accessFlags := 1537
  interfaces := #[]
  cf := some (fileOf pool5 8 #[] #[] 1537 35 #[] #[])
  fields := #[]
  methods := #[]
  instanceTypes := #[]
  staticTypes := #[]
  resolved := Array.replicate 62 none
  statics := none }

def pool6 : Array CpInfo := pool [(10, .class_ 12), (1, u "java/util/Collection"), (17, u "()Z"), (13, u "()V"), (15, .class_ 61), (0, u "java/lang/Object"), (0, .class_ 63), (0, u "java/lang/Iterable"), (2, u "isEmpty"), (38, u "clear")] 9

def k6m0 : Method := { name := "isEmpty", desc := "()Z", sig := { parameters := [], returnType := some .boolean }, accessFlags := 1025, code := none }
def k6m1 : Method := { name := "clear", desc := "()V", sig := { parameters := [], returnType := none }, accessFlags := 1025, code := none }
/-- java/util/Collection -/
def k6 : Class := { plain "java/util/Collection" (some 0) with
  accessFlags := 1537
  interfaces := #[5]
  cf := some (fileOf pool6 10 #[] #[{ accessFlags := 1025, nameIndex := 66, descriptorIndex := 30, attributes := #[] }, { accessFlags := 1025, nameIndex := 105, descriptorIndex := 44, attributes := #[] }] 1537 60 #[62] #[])
  fields := #[]
  methods := #[k6m0, k6m1]
  instanceTypes := #[]
  staticTypes := #[]
  resolved := Array.replicate 115 none
  statics := none }

def pool7 : Array CpInfo := pool [(1, .methodref 2 3), (0, .class_ 4), (0, .nameAndType 5 6), (0, u "java/lang/Object"), (0, u "<init>"), (0, u "()V"), (1, .class_ 10), (1, u "java/util/AbstractCollection"), (66, .class_ 78), (0, u "java/util/Collection")] 81

def k7c0 : Code := { maxStack := 1, maxLocals := 1, code := jdk_22_method_1_code, exceptionTable := #[], attributes := #[] }
def k7m0 : Method := { name := "<init>", desc := "()V", sig := { parameters := [], returnType := none }, accessFlags := 4, code := some k7c0 }
/-- java/util/AbstractCollection -/
def k7 : Class := { plain "java/util/AbstractCollection" (some 0) with
  accessFlags := 1057
  interfaces := #[6]
  cf := some (fileOf pool7 8 #[] #[{ accessFlags := 4, nameIndex := 5, descriptorIndex := 6, attributes := #[] }] 1057 2 #[77] #[])
  fields := #[]
  methods := #[k7m0]
  instanceTypes := #[]
  staticTypes := #[]
  resolved := Array.replicate 160 none
  statics := none }

def pool8 : Array CpInfo := pool [(1, .class_ 2), (0, u "java/util/Queue"), (0, .class_ 4), (0, u "java/lang/Object"), (0, .class_ 6), (0, u "java/util/Collection")] 14

/-- java/util/Queue -/
def k8 : Class := { plain "java/util/Queue" (some 0) with
  accessFlags := 1537
  interfaces := #[6]
  cf := some (fileOf pool8 1 #[] #[] 1537 3 #[5] #[])
  fields := #[]
  methods := #[]
  instanceTypes := #[]
  staticTypes := #[]
  resolved := Array.replicate 21 none
  statics := none }

def pool9 : Array CpInfo := pool [(8, .class_ 10), (1, u "java/util/SequencedCollection"), (15, .class_ 27), (0, u "java/lang/Object"), (0, .class_ 29), (0, u "java/util/Collection")] 27

/-- java/util/SequencedCollection -/
def k9 : Class := { plain "java/util/SequencedCollection" (some 0) with
  accessFlags := 1537
  interfaces := #[6]
  cf := some (fileOf pool9 8 #[] #[] 1537 26 #[28] #[])
  fields := #[]
  methods := #[]
  instanceTypes := #[]
  staticTypes := #[]
  resolved := Array.replicate 57 none
  statics := none }

def pool10 : Array CpInfo := pool [(8, .class_ 10), (1, u "java/util/Deque"), (2, .class_ 14), (0, u "java/lang/Object"), (0, .class_ 16), (0, u "java/util/Queue"), (0, .class_ 18), (0, u "java/util/SequencedCollection"), (1, u "(Ljava/lang/Object;)V"), (2, u "addLast"), (28, u "size"), (0, u "()I")] 16

def k10m0 : Method := { name := "addLast", desc := "(Ljava/lang/Object;)V", sig := { parameters := [(.object "java/lang/Object")], returnType := none }, accessFlags := 1025, code := none }
def k10m1 : Method := { name := "size", desc := "()I", sig := { parameters := [], returnType := some .int }, accessFlags := 1025, code := none }
/-- java/util/Deque -/
def k10 : Class := { plain "java/util/Deque" (some 0) with
  accessFlags := 1537
  interfaces := #[8, 9]
  cf := some (fileOf pool10 8 #[] #[{ accessFlags := 1025, nameIndex := 23, descriptorIndex := 20, attributes := #[] }, { accessFlags := 1025, nameIndex := 52, descriptorIndex := 53, attributes := #[] }] 1537 13 #[15, 17] #[])
  fields := #[]
  methods := #[k10m0, k10m1]
  instanceTypes := #[]
  staticTypes := #[]
  resolved := Array.replicate 70 none
  statics := none }

def pool11 : Array CpInfo := pool [(1, .class_ 2), (0, u "java/lang/Cloneable"), (0, .class_ 4), (0, u "java/lang/Object")] 2

/-- java/lang/Cloneable -/
def k11 : Class := { plain "java/lang/Cloneable" (some 0) with
  accessFlags := 1537
  interfaces := #[]
  cf := some (fileOf pool11 1 #[] #[] 1537 3 #[] #[])
  fields := #[]
  methods := #[]
  instanceTypes := #[]
  staticTypes := #[]
  resolved := Array.replicate 7 none
  statics := none }

def pool12 : Array CpInfo := pool [(1, .class_ 2), (0, u "java/io/Serializable"), (0, .class_ 4), (0, u "java/lang/Object")] 2

/-- java/io/Serializable -/
def k12 : Class := { plain "java/io/Serializable" (some 0) with
  accessFlags := 1537
  interfaces := #[]
  cf := some (fileOf pool12 1 #[] #[] 1537 3 #[] #[])
  fields := #[]
  methods := #[]
  instanceTypes := #[]
  staticTypes := #[]
  resolved := Array.replicate 7 none
  statics := none }

def pool13 : Array CpInfo := pool [(3, .fieldref 4 5), (0, .class_ 6), (0, .nameAndType 7 8), (0, u "java/util/ArrayDeque"), (0, u "elements"), (0, u "[Ljava/lang/Object;"), (4, u "(II)I"), (6, .fieldref 4 21), (0, .nameAndType 22 23), (0, u "tail"), (0, u "I"), (0, .fieldref 4 25), (0, .nameAndType 26 23), (0, u "head"), (12, u "<init>"), (2, .methodref 43 44), (0, .class_ 45), (0, .nameAndType 39 46), (0, u "java/util/AbstractCollection"), (0, u "()V"), (0, .class_ 48), (0, u "java/lang/Object"), (4, u "size"), (0, u "()I"), (19, .methodref 4 75), (0, .nameAndType 76 13), (0, u "inc"), (12, u "(Ljava/lang/Object;)V"), (2, u "addLast"), (34, .methodref 4 128), (0, .nameAndType 129 130), (0, u "sub"), (0, u "(III)I"), (0, .class_ 132), (0, u "java/util/ArrayDeque$DeqIterator"), (3, .class_ 137), (0, u "java/util/ArrayDeque$DescendingIterator"), (1, .class_ 140), (0, u "java/util/ArrayDeque$DeqSpliterator"), (40, .methodref 4 182), (0, .nameAndType 183 184), (0, u "circularClear"), (0, u "([Ljava/lang/Object;II)V"), (93, .class_ 279), (0, u "java/util/Deque"), (0, .class_ 281), (0, u "java/lang/Cloneable"), (0, .class_ 283), (0, u "java/io/Serializable"), (0, u "MAX_ARRAY_SIZE"), (1, u "serialVersionUID"), (0, u "J"), (59, u "isEmpty"), (0, u "()Z"), (29, u "clear")] 59

def k13c0 : Code := { maxStack := 2, maxLocals := 1, code := jdk_21_method_3_code, exceptionTable := #[], attributes := #[] }
def k13m0 : Method := { name := "<init>", desc := "()V", sig := { parameters := [], returnType := none }, accessFlags := 1, code := some k13c0 }
def k13c1 : Code := { maxStack := 2, maxLocals := 2, code := jdk_21_method_6_code, exceptionTable := #[], attributes := #[] }
def k13m1 : Method := { name := "inc", desc := "(II)I", sig := { parameters := [.int, .int], returnType := some .int }, accessFlags := 24, code := some k13c1 }
def k13c2 : Code := { maxStack := 2, maxLocals := 3, code := jdk_21_method_9_code, exceptionTable := #[], attributes := #[] }
def k13m2 : Method := { name := "sub", desc := "(III)I", sig := { parameters := [.int, .int, .int], returnType := some .int }, accessFlags := 24, code := some k13c2 }
def k13c3 : Code := { maxStack := 4, maxLocals := 3, code := jdk_21_method_13_code, exceptionTable := #[], attributes := #[] }
def k13m3 : Method := { name := "addLast", desc := "(Ljava/lang/Object;)V", sig := { parameters := [(.object "java/lang/Object")], returnType := none }, accessFlags := 1, code := some k13c3 }
def k13c4 : Code := { maxStack := 3, maxLocals := 1, code := jdk_21_method_37_code, exceptionTable := #[], attributes := #[] }
def k13m4 : Method := { name := "size", desc := "()I", sig := { parameters := [], returnType := some .int }, accessFlags := 1, code := some k13c4 }
def k13c5 : Code := { maxStack := 2, maxLocals := 1, code := jdk_21_method_38_code, exceptionTable := #[], attributes := #[] }
def k13m5 : Method := { name := "isEmpty", desc := "()Z", sig := { parameters := [], returnType := some .boolean }, accessFlags := 1, code := some k13c5 }
def k13c6 : Code := { maxStack := 4, maxLocals := 1, code := jdk_21_method_53_code, exceptionTable := #[], attributes := #[] }
def k13m6 : Method := { name := "clear", desc := "()V", sig := { parameters := [], returnType := none }, accessFlags := 1, code := some k13c6 }
def k13c7 : Code := { maxStack := 3, maxLocals := 4, code := jdk_21_method_54_code, exceptionTable := #[], attributes := #[] }
def k13m7 : Method := { name := "circularClear", desc := "([Ljava/lang/Object;II)V", sig := { parameters := [(.array (.object "java/lang/Object")), .int, .int], returnType := none }, accessFlags := 10, code := some k13c7 }
/-- java/util/ArrayDeque -/
def k13 : Class := { plain "java/util/ArrayDeque" (some 7) with
  accessFlags := 33
  interfaces := #[10, 11, 12]
  cf := some (fileOf pool13 4 #[.nestMembers #[139, 136, 131]] #[{ accessFlags := 1, nameIndex := 39, descriptorIndex := 46, attributes := #[] }, { accessFlags := 24, nameIndex := 76, descriptorIndex := 13, attributes := #[] }, { accessFlags := 24, nameIndex := 129, descriptorIndex := 130, attributes := #[] }, { accessFlags := 1, nameIndex := 92, descriptorIndex := 89, attributes := #[] }, { accessFlags := 1, nameIndex := 53, descriptorIndex := 54, attributes := #[] }, { accessFlags := 1, nameIndex := 347, descriptorIndex := 348, attributes := #[] }, { accessFlags := 1, nameIndex := 378, descriptorIndex := 46, attributes := #[] }, { accessFlags := 10, nameIndex := 183, descriptorIndex := 184, attributes := #[] }] 33 43 #[278, 280, 282] #[{ accessFlags := 128, nameIndex := 7, descriptorIndex := 8, attributes := #[] }, { accessFlags := 128, nameIndex := 26, descriptorIndex := 23, attributes := #[] }, { accessFlags := 128, nameIndex := 22, descriptorIndex := 23, attributes := #[] }, { accessFlags := 26, nameIndex := 284, descriptorIndex := 23, attributes := #[] }, { accessFlags := 26, nameIndex := 286, descriptorIndex := 287, attributes := #[] }])
  fields := #[{ name := "elements", type := (.array (.object "java/lang/Object")), accessFlags := 128, slot := 0, constantValue := 0 }, { name := "head", type := .int, accessFlags := 128, slot := 1, constantValue := 0 }, { name := "tail", type := .int, accessFlags := 128, slot := 2, constantValue := 0 }, { name := "MAX_ARRAY_SIZE", type := .int, accessFlags := 26, slot := 0, constantValue := 0 }, { name := "serialVersionUID", type := .long, accessFlags := 26, slot := 1, constantValue := 0 }]
  methods := #[k13m0, k13m1, k13m2, k13m3, k13m4, k13m5, k13m6, k13m7]
  instanceTypes := #[(.array (.object "java/lang/Object")), .int, .int]
  staticTypes := #[.int, .long]
  resolved := Array.replicate 438 none
  statics := none }

def pool14 : Array CpInfo := pool [(1, .class_ 2), (0, u "java/lang/constant/Constable"), (0, .class_ 4), (0, u "java/lang/Object")] 6

/-- java/lang/constant/Constable -/
def k14 : Class := { plain "java/lang/constant/Constable" (some 0) with
  accessFlags := 1537
  interfaces := #[]
  cf := some (fileOf pool14 1 #[] #[] 1537 3 #[] #[])
  fields := #[]
  methods := #[]
  instanceTypes := #[]
  staticTypes := #[]
  resolved := Array.replicate 11 none
  statics := none }

def pool15 : Array CpInfo := pool [(1, .class_ 2), (0, u "java/lang/Comparable"), (0, .class_ 4), (0, u "java/lang/Object")] 7

/-- java/lang/Comparable -/
def k15 : Class := { plain "java/lang/Comparable" (some 0) with
  accessFlags := 1537
  interfaces := #[]
  cf := some (fileOf pool15 1 #[] #[] 1537 3 #[] #[])
  fields := #[]
  methods := #[]
  instanceTypes := #[]
  staticTypes := #[]
  resolved := Array.replicate 12 none
  statics := none }

def pool16 : Array CpInfo := pool [(2, .class_ 4), (1, u "java/lang/Enum"), (0, u "name"), (0, u "Ljava/lang/String;"), (2, u "ordinal"), (0, u "I"), (1, .class_ 14), (1, u "java/lang/Object"), (4, u "hash"), (86, .class_ 108), (1, u "java/lang/Enum$EnumDesc"), (2, .class_ 112), (0, u "java/lang/constant/Constable"), (0, .class_ 114), (0, u "java/lang/Comparable"), (0, .class_ 116), (0, u "java/io/Serializable")] 87

/-- java/lang/Enum -/
def k16 : Class := { plain "java/lang/Enum" (some 0) with
  accessFlags := 1057
  interfaces := #[14, 15, 12]
  cf := some (fileOf pool16 2 #[.nestMembers #[106]] #[] 1057 12 #[111, 113, 115] #[{ accessFlags := 18, nameIndex := 5, descriptorIndex := 6, attributes := #[] }, { accessFlags := 18, nameIndex := 9, descriptorIndex := 10, attributes := #[] }, { accessFlags := 2, nameIndex := 19, descriptorIndex := 10, attributes := #[] }])
  fields := #[{ name := "name", type := (.object "java/lang/String"), accessFlags := 18, slot := 0, constantValue := 0 }, { name := "ordinal", type := .int, accessFlags := 18, slot := 1, constantValue := 0 }, { name := "hash", type := .int, accessFlags := 2, slot := 2, constantValue := 0 }]
  methods := #[]
  instanceTypes := #[(.object "java/lang/String"), .int, .int]
  staticTypes := #[]
  resolved := Array.replicate 204 none
  statics := none }

def pool17 : Array CpInfo := pool [(1, .class_ 2), (0, u "java/util/concurrent/TimeUnit"), (2, u "NANOSECONDS"), (0, u "Ljava/util/concurrent/TimeUnit;"), (2, u "MICROSECONDS"), (2, u "MILLISECONDS"), (2, u "SECONDS"), (2, u "MINUTES"), (2, u "HOURS"), (2, u "DAYS"), (2, u "$VALUES"), (0, u "[Ljava/util/concurrent/TimeUnit;"), (6, .class_ 37), (1, u "java/lang/Enum"), (6, .fieldref 1 45), (0, .nameAndType 46 47), (0, u "scale"), (0, u "J"), (4, .fieldref 1 53), (0, .nameAndType 54 47), (0, u "maxNanos"), (4, u "microRatio"), (2, u "maxMicros"), (4, u "milliRatio"), (0, u "I"), (2, u "maxMillis"), (4, u "secRatio"), (2, u "maxSecs"), (8, u "toNanos"), (0, u "(J)J"), (73, .class_ 165), (1, u "java/util/concurrent/TimeUnit$1"), (46, u "NANO_SCALE"), (3, u "MICRO_SCALE"), (0, u "MILLI_SCALE"), (0, u "SECOND_SCALE"), (0, u "MINUTE_SCALE"), (0, u "HOUR_SCALE"), (0, u "DAY_SCALE")] 61

def k17c0 : Code := { maxStack := 6, maxLocals := 7, code := jdk_2799_method_7_code, exceptionTable := #[], attributes := #[] }
def k17m0 : Method := { name := "toNanos", desc := "(J)J", sig := { parameters := [.long], returnType := some .long }, accessFlags := 1, code := some k17c0 }
/-- java/util/concurrent/TimeUnit -/
def k17 : Class := { plain "java/util/concurrent/TimeUnit" (some 16) with
  accessFlags := 16433
  interfaces := #[]
  cf := some (fileOf pool17 1 #[.nestMembers #[163]] #[{ accessFlags := 1, nameIndex := 88, descriptorIndex := 89, attributes := #[] }] 16433 35 #[] #[{ accessFlags := 16409, nameIndex := 5, descriptorIndex := 6, attributes := #[] }, { accessFlags := 16409, nameIndex := 9, descriptorIndex := 6, attributes := #[] }, { accessFlags := 16409, nameIndex := 12, descriptorIndex := 6, attributes := #[] }, { accessFlags := 16409, nameIndex := 15, descriptorIndex := 6, attributes := #[] }, { accessFlags := 16409, nameIndex := 18, descriptorIndex := 6, attributes := #[] }, { accessFlags := 16409, nameIndex := 21, descriptorIndex := 6, attributes := #[] }, { accessFlags := 16409, nameIndex := 24, descriptorIndex := 6, attributes := #[] }, { accessFlags := 26, nameIndex := 212, descriptorIndex := 47, attributes := #[] }, { accessFlags := 26, nameIndex := 216, descriptorIndex := 47, attributes := #[] }, { accessFlags := 26, nameIndex := 217, descriptorIndex := 47, attributes := #[] }, { accessFlags := 26, nameIndex := 218, descriptorIndex := 47, attributes := #[] }, { accessFlags := 26, nameIndex := 219, descriptorIndex := 47, attributes := #[] }, { accessFlags := 26, nameIndex := 220, descriptorIndex := 47, attributes := #[] }, { accessFlags := 26, nameIndex := 221, descriptorIndex := 47, attributes := #[] }, { accessFlags := 18, nameIndex := 46, descriptorIndex := 47, attributes := #[] }, { accessFlags := 18, nameIndex := 54, descriptorIndex := 47, attributes := #[] }, { accessFlags := 18, nameIndex := 62, descriptorIndex := 47, attributes := #[] }, { accessFlags := 18, nameIndex := 71, descriptorIndex := 47, attributes := #[] }, { accessFlags := 18, nameIndex := 79, descriptorIndex := 47, attributes := #[] }, { accessFlags := 18, nameIndex := 59, descriptorIndex := 47, attributes := #[] }, { accessFlags := 18, nameIndex := 67, descriptorIndex := 68, attributes := #[] }, { accessFlags := 18, nameIndex := 76, descriptorIndex := 68, attributes := #[] }, { accessFlags := 4122, nameIndex := 27, descriptorIndex := 28, attributes := #[] }])
  fields := #[{ name := "NANOSECONDS", type := (.object "java/util/concurrent/TimeUnit"), accessFlags := 16409, slot := 0, constantValue := 0 }, { name := "MICROSECONDS", type := (.object "java/util/concurrent/TimeUnit"), accessFlags := 16409, slot := 1, constantValue := 0 }, { name := "MILLISECONDS", type := (.object "java/util/concurrent/TimeUnit"), accessFlags := 16409, slot := 2, constantValue := 0 }, { name := "SECONDS", type := (.object "java/util/concurrent/TimeUnit"), accessFlags := 16409, slot := 3, constantValue := 0 }, { name := "MINUTES", type := (.object "java/util/concurrent/TimeUnit"), accessFlags := 16409, slot := 4, constantValue := 0 }, { name := "HOURS", type := (.object "java/util/concurrent/TimeUnit"), accessFlags := 16409, slot := 5, constantValue := 0 }, { name := "DAYS", type := (.object "java/util/concurrent/TimeUnit"), accessFlags := 16409, slot := 6, constantValue := 0 }, { name := "NANO_SCALE", type := .long, accessFlags := 26, slot := 7, constantValue := 0 }, { name := "MICRO_SCALE", type := .long, accessFlags := 26, slot := 8, constantValue := 0 }, { name := "MILLI_SCALE", type := .long, accessFlags := 26, slot := 9, constantValue := 0 }, { name := "SECOND_SCALE", type := .long, accessFlags := 26, slot := 10, constantValue := 0 }, { name := "MINUTE_SCALE", type := .long, accessFlags := 26, slot := 11, constantValue := 0 }, { name := "HOUR_SCALE", type := .long, accessFlags := 26, slot := 12, constantValue := 0 }, { name := "DAY_SCALE", type := .long, accessFlags := 26, slot := 13, constantValue := 0 }, { name := "scale", type := .long, accessFlags := 18, slot := 3, constantValue := 0 }, { name := "maxNanos", type := .long, accessFlags := 18, slot := 4, constantValue := 0 }, { name := "maxMicros", type := .long, accessFlags := 18, slot := 5, constantValue := 0 }, { name := "maxMillis", type := .long, accessFlags := 18, slot := 6, constantValue := 0 }, { name := "maxSecs", type := .long, accessFlags := 18, slot := 7, constantValue := 0 }, { name := "microRatio", type := .long, accessFlags := 18, slot := 8, constantValue := 0 }, { name := "milliRatio", type := .int, accessFlags := 18, slot := 9, constantValue := 0 }, { name := "secRatio", type := .int, accessFlags := 18, slot := 10, constantValue := 0 }, { name := "$VALUES", type := (.array (.object "java/util/concurrent/TimeUnit")), accessFlags := 4122, slot := 14, constantValue := 0 }]
  methods := #[k17m0]
  instanceTypes := #[(.object "java/lang/String"), .int, .int, .long, .long, .long, .long, .long, .long, .int, .int]
  staticTypes := #[(.object "java/util/concurrent/TimeUnit"), (.object "java/util/concurrent/TimeUnit"), (.object "java/util/concurrent/TimeUnit"), (.object "java/util/concurrent/TimeUnit"), (.object "java/util/concurrent/TimeUnit"), (.object "java/util/concurrent/TimeUnit"), (.object "java/util/concurrent/TimeUnit"), .long, .long, .long, .long, .long, .long, .long, (.array (.object "java/util/concurrent/TimeUnit"))]
  resolved := Array.replicate 283 none
  statics := some 0 }

def pool18 : Array CpInfo := pool [(1, .methodref 2 3), (0, .class_ 4), (0, .nameAndType 5 6), (0, u "java/lang/Object"), (0, u "<init>"), (0, u "()V"), (1, .class_ 10), (1, u "java/lang/Number"), (2, .class_ 14), (0, u "java/io/Serializable"), (0, u "serialVersionUID"), (0, u "J")] 20

def k18c0 : Code := { maxStack := 1, maxLocals := 1, code := jdk_18_method_1_code, exceptionTable := #[], attributes := #[] }
def k18m0 : Method := { name := "<init>", desc := "()V", sig := { parameters := [], returnType := none }, accessFlags := 1, code := some k18c0 }
/-- java/lang/Number -/
def k18 : Class := { plain "java/lang/Number" (some 0) with
  accessFlags := 1057
  interfaces := #[12]
  cf := some (fileOf pool18 8 #[] #[{ accessFlags := 1, nameIndex := 5, descriptorIndex := 6, attributes := #[] }] 1057 2 #[13] #[{ accessFlags := 26, nameIndex := 15, descriptorIndex := 16, attributes := #[] }])
  fields := #[{ name := "serialVersionUID", type := .long, accessFlags := 26, slot := 0, constantValue := 0 }]
  methods := #[k18m0]
  instanceTypes := #[]
  staticTypes := #[.long]
  resolved := Array.replicate 37 none
  statics := none }

def pool19 : Array CpInfo := pool [(1, .class_ 2), (0, u "java/lang/constant/ConstantDesc"), (0, .class_ 4), (0, u "java/lang/Object")] 32

/-- java/lang/constant/ConstantDesc -/
def k19 : Class := { plain "java/lang/constant/ConstantDesc" (some 0) with
  accessFlags := 1537
  interfaces := #[]
  cf := some (fileOf pool19 1 #[] #[] 1537 3 #[] #[])
  fields := #[]
  methods := #[]
  instanceTypes := #[]
  staticTypes := #[]
  resolved := Array.replicate 37 none
  statics := none }

def pool20 : Array CpInfo := pool [(1, .class_ 2), (0, u "java/lang/Long"), (55, .nameAndType 59 60), (0, u "<init>"), (0, u "()V"), (24, u "valueOf"), (143, u "(J)Ljava/lang/Long;"), (0, .long 18446744073709551488), (1, .long 127), (1, .fieldref 235 236), (0, .class_ 237), (0, .nameAndType 238 239), (0, u "java/lang/Long$LongCache"), (0, u "cache"), (0, u "[Ljava/lang/Long;"), (0, .methodref 1 241), (0, .nameAndType 59 242), (0, u "(J)V"), (27, .methodref 271 58), (0, .class_ 272), (0, u "java/lang/Number"), (0, .fieldref 1 274), (0, .nameAndType 275 276), (0, u "value"), (0, u "J"), (84, u "TYPE"), (0, u "Ljava/lang/Class;"), (0, .class_ 364), (0, u "java/lang/Comparable"), (0, .class_ 366), (0, u "java/lang/constant/Constable"), (0, .class_ 368), (0, u "java/lang/constant/ConstantDesc"), (0, u "MIN_VALUE"), (1, u "MAX_VALUE"), (4, u "SIZE"), (0, u "I"), (1, u "BYTES"), (1, u "serialVersionUID")] 142

def k20c0 : Code := { maxStack := 4, maxLocals := 3, code := jdk_35_method_24_code, exceptionTable := #[], attributes := #[] }
def k20m0 : Method := { name := "valueOf", desc := "(J)Ljava/lang/Long;", sig := { parameters := [.long], returnType := some (.object "java/lang/Long") }, accessFlags := 9, code := some k20c0 }
def k20c1 : Code := { maxStack := 3, maxLocals := 3, code := jdk_35_method_26_code, exceptionTable := #[], attributes := #[] }
def k20m1 : Method := { name := "<init>", desc := "(J)V", sig := { parameters := [.long], returnType := none }, accessFlags := 1, code := some k20c1 }
/-- java/lang/Long -/
def k20 : Class := { plain "java/lang/Long" (some 18) with
  accessFlags := 49
  interfaces := #[15, 14, 19]
  cf := some (fileOf pool20 1 #[.nestMembers #[235]] #[{ accessFlags := 9, nameIndex := 85, descriptorIndex := 229, attributes := #[] }, { accessFlags := 1, nameIndex := 59, descriptorIndex := 242, attributes := #[] }] 49 271 #[363, 365, 367] #[{ accessFlags := 25, nameIndex := 369, descriptorIndex := 276, attributes := #[] }, { accessFlags := 25, nameIndex := 371, descriptorIndex := 276, attributes := #[] }, { accessFlags := 25, nameIndex := 361, descriptorIndex := 362, attributes := #[] }, { accessFlags := 18, nameIndex := 275, descriptorIndex := 276, attributes := #[] }, { accessFlags := 25, nameIndex := 376, descriptorIndex := 377, attributes := #[] }, { accessFlags := 25, nameIndex := 379, descriptorIndex := 377, attributes := #[] }, { accessFlags := 26, nameIndex := 381, descriptorIndex := 276, attributes := #[] }])
  fields := #[{ name := "MIN_VALUE", type := .long, accessFlags := 25, slot := 0, constantValue := 0 }, { name := "MAX_VALUE", type := .long, accessFlags := 25, slot := 1, constantValue := 0 }, { name := "TYPE", type := (.object "java/lang/Class"), accessFlags := 25, slot := 2, constantValue := 0 }, { name := "value", type := .long, accessFlags := 18, slot := 0, constantValue := 0 }, { name := "SIZE", type := .int, accessFlags := 25, slot := 3, constantValue := 0 }, { name := "BYTES", type := .int, accessFlags := 25, slot := 4, constantValue := 0 }, { name := "serialVersionUID", type := .long, accessFlags := 26, slot := 5, constantValue := 0 }]
  methods := #[k20m0, k20m1]
  instanceTypes := #[.long]
  staticTypes := #[.long, .long, (.object "java/lang/Class"), .int, .int, .long]
  resolved := Array.replicate 524 none
  statics := none }

def pool21 : Array CpInfo := pool [(2, .class_ 4), (1, u "java/lang/Object"), (0, u "<init>"), (0, u "()V"), (0, .class_ 8), (0, u "java/lang/Long"), (7, .class_ 18), (1, u "java/lang/Long$LongCache"), (0, u "$assertionsDisabled"), (0, u "Z"), (8, u "archivedCache"), (0, u "[Ljava/lang/Long;"), (7, u "cache")] 24

def k21m0 : Method := { name := "<init>", desc := "()V", sig := { parameters := [], returnType := none }, accessFlags := 2, code := none }
/-- java/lang/Long$LongCache -/
def k21 : Class := { plain "java/lang/Long$LongCache" (some 0) with
  accessFlags := 48
  interfaces := #[]
  cf := some (fileOf pool21 16 #[.nestHost 7] #[{ accessFlags := 2, nameIndex := 5, descriptorIndex := 6, attributes := #[] }] 48 2 #[] #[{ accessFlags := 24, nameIndex := 38, descriptorIndex := 30, attributes := #[] }, { accessFlags := 8, nameIndex := 29, descriptorIndex := 30, attributes := #[] }, { accessFlags := 4120, nameIndex := 19, descriptorIndex := 20, attributes := #[] }])
  fields := #[{ name := "cache", type := (.array (.object "java/lang/Long")), accessFlags := 24, slot := 0, constantValue := 0 }, { name := "archivedCache", type := (.array (.object "java/lang/Long")), accessFlags := 8, slot := 1, constantValue := 0 }, { name := "$assertionsDisabled", type := .boolean, accessFlags := 4120, slot := 2, constantValue := 0 }]
  methods := #[k21m0]
  instanceTypes := #[]
  staticTypes := #[(.array (.object "java/lang/Long")), (.array (.object "java/lang/Long")), .boolean]
  resolved := Array.replicate 63 none
  statics := some 1 }

/-- the primitive byte -/
def k22 : Class := { plain "byte" none with kind := .primitive 'B', accessFlags := 0x411 }
/-- [B -/
def k23 : Class := { plain "[B" (some 0) with kind := .array 22 .byte, interfaces := #[11, 12], accessFlags := 1041 }

/-- the primitive int -/
def k24 : Class := { plain "int" none with kind := .primitive 'I', accessFlags := 0x411 }
/-- [I -/
def k25 : Class := { plain "[I" (some 0) with kind := .array 24 .int, interfaces := #[11, 12], accessFlags := 1041 }

/-- [Ljava/lang/Long; -/
def k26 : Class := { plain "[Ljava/lang/Long;" (some 0) with kind := .array 20 (.object "java/lang/Long"), interfaces := #[11, 12], accessFlags := 1041 }

/-- [Ljava/lang/Object; -/
def k27 : Class := { plain "[Ljava/lang/Object;" (some 0) with kind := .array 0 (.object "java/lang/Object"), interfaces := #[11, 12], accessFlags := 1041 }

/-- java/lang/String, bare: named by the set alone -/
def k28 : Class := plain "java/lang/String" (some 0)
def heap : Heap := #[{ cls := 17, slots := #[.null, .null, .ref 259, .null, .null, .null, .null, .long 0, .long 0, .long 0, .long 0, .long 0, .long 0, .long 0, .null], vm := .statics 17 },
  { cls := 21, slots := #[.ref 2, .null, .int 0], vm := .statics 21 },
  { cls := 26, slots := #[.ref 3, .ref 4, .ref 5, .ref 6, .ref 7, .ref 8, .ref 9, .ref 10, .ref 11, .ref 12, .ref 13, .ref 14, .ref 15, .ref 16, .ref 17, .ref 18, .ref 19, .ref 20, .ref 21, .ref 22, .ref 23, .ref 24, .ref 25, .ref 26, .ref 27, .ref 28, .ref 29, .ref 30, .ref 31, .ref 32, .ref 33, .ref 34, .ref 35, .ref 36, .ref 37, .ref 38, .ref 39, .ref 40, .ref 41, .ref 42, .ref 43, .ref 44, .ref 45, .ref 46, .ref 47, .ref 48, .ref 49, .ref 50, .ref 51, .ref 52, .ref 53, .ref 54, .ref 55, .ref 56, .ref 57, .ref 58, .ref 59, .ref 60, .ref 61, .ref 62, .ref 63, .ref 64, .ref 65, .ref 66, .ref 67, .ref 68, .ref 69, .ref 70, .ref 71, .ref 72, .ref 73, .ref 74, .ref 75, .ref 76, .ref 77, .ref 78, .ref 79, .ref 80, .ref 81, .ref 82, .ref 83, .ref 84, .ref 85, .ref 86, .ref 87, .ref 88, .ref 89, .ref 90, .ref 91, .ref 92, .ref 93, .ref 94, .ref 95, .ref 96, .ref 97, .ref 98, .ref 99, .ref 100, .ref 101, .ref 102, .ref 103, .ref 104, .ref 105, .ref 106, .ref 107, .ref 108, .ref 109, .ref 110, .ref 111, .ref 112, .ref 113, .ref 114, .ref 115, .ref 116, .ref 117, .ref 118, .ref 119, .ref 120, .ref 121, .ref 122, .ref 123, .ref 124, .ref 125, .ref 126, .ref 127, .ref 128, .ref 129, .ref 130, .ref 131, .ref 132, .ref 133, .ref 134, .ref 135, .ref 136, .ref 137, .ref 138, .ref 139, .ref 140, .ref 141, .ref 142, .ref 143, .ref 144, .ref 145, .ref 146, .ref 147, .ref 148, .ref 149, .ref 150, .ref 151, .ref 152, .ref 153, .ref 154, .ref 155, .ref 156, .ref 157, .ref 158, .ref 159, .ref 160, .ref 161, .ref 162, .ref 163, .ref 164, .ref 165, .ref 166, .ref 167, .ref 168, .ref 169, .ref 170, .ref 171, .ref 172, .ref 173, .ref 174, .ref 175, .ref 176, .ref 177, .ref 178, .ref 179, .ref 180, .ref 181, .ref 182, .ref 183, .ref 184, .ref 185, .ref 186, .ref 187, .ref 188, .ref 189, .ref 190, .ref 191, .ref 192, .ref 193, .ref 194, .ref 195, .ref 196, .ref 197, .ref 198, .ref 199, .ref 200, .ref 201, .ref 202, .ref 203, .ref 204, .ref 205, .ref 206, .ref 207, .ref 208, .ref 209, .ref 210, .ref 211, .ref 212, .ref 213, .ref 214, .ref 215, .ref 216, .ref 217, .ref 218, .ref 219, .ref 220, .ref 221, .ref 222, .ref 223, .ref 224, .ref 225, .ref 226, .ref 227, .ref 228, .ref 229, .ref 230, .ref 231, .ref 232, .ref 233, .ref 234, .ref 235, .ref 236, .ref 237, .ref 238, .ref 239, .ref 240, .ref 241, .ref 242, .ref 243, .ref 244, .ref 245, .ref 246, .ref 247, .ref 248, .ref 249, .ref 250, .ref 251, .ref 252, .ref 253, .ref 254, .ref 255, .ref 256, .ref 257, .ref 258], vm := .none },
  { cls := 20, slots := #[.long (-128)], vm := .none },
  { cls := 20, slots := #[.long (-127)], vm := .none },
  { cls := 20, slots := #[.long (-126)], vm := .none },
  { cls := 20, slots := #[.long (-125)], vm := .none },
  { cls := 20, slots := #[.long (-124)], vm := .none },
  { cls := 20, slots := #[.long (-123)], vm := .none },
  { cls := 20, slots := #[.long (-122)], vm := .none },
  { cls := 20, slots := #[.long (-121)], vm := .none },
  { cls := 20, slots := #[.long (-120)], vm := .none },
  { cls := 20, slots := #[.long (-119)], vm := .none },
  { cls := 20, slots := #[.long (-118)], vm := .none },
  { cls := 20, slots := #[.long (-117)], vm := .none },
  { cls := 20, slots := #[.long (-116)], vm := .none },
  { cls := 20, slots := #[.long (-115)], vm := .none },
  { cls := 20, slots := #[.long (-114)], vm := .none },
  { cls := 20, slots := #[.long (-113)], vm := .none },
  { cls := 20, slots := #[.long (-112)], vm := .none },
  { cls := 20, slots := #[.long (-111)], vm := .none },
  { cls := 20, slots := #[.long (-110)], vm := .none },
  { cls := 20, slots := #[.long (-109)], vm := .none },
  { cls := 20, slots := #[.long (-108)], vm := .none },
  { cls := 20, slots := #[.long (-107)], vm := .none },
  { cls := 20, slots := #[.long (-106)], vm := .none },
  { cls := 20, slots := #[.long (-105)], vm := .none },
  { cls := 20, slots := #[.long (-104)], vm := .none },
  { cls := 20, slots := #[.long (-103)], vm := .none },
  { cls := 20, slots := #[.long (-102)], vm := .none },
  { cls := 20, slots := #[.long (-101)], vm := .none },
  { cls := 20, slots := #[.long (-100)], vm := .none },
  { cls := 20, slots := #[.long (-99)], vm := .none },
  { cls := 20, slots := #[.long (-98)], vm := .none },
  { cls := 20, slots := #[.long (-97)], vm := .none },
  { cls := 20, slots := #[.long (-96)], vm := .none },
  { cls := 20, slots := #[.long (-95)], vm := .none },
  { cls := 20, slots := #[.long (-94)], vm := .none },
  { cls := 20, slots := #[.long (-93)], vm := .none },
  { cls := 20, slots := #[.long (-92)], vm := .none },
  { cls := 20, slots := #[.long (-91)], vm := .none },
  { cls := 20, slots := #[.long (-90)], vm := .none },
  { cls := 20, slots := #[.long (-89)], vm := .none },
  { cls := 20, slots := #[.long (-88)], vm := .none },
  { cls := 20, slots := #[.long (-87)], vm := .none },
  { cls := 20, slots := #[.long (-86)], vm := .none },
  { cls := 20, slots := #[.long (-85)], vm := .none },
  { cls := 20, slots := #[.long (-84)], vm := .none },
  { cls := 20, slots := #[.long (-83)], vm := .none },
  { cls := 20, slots := #[.long (-82)], vm := .none },
  { cls := 20, slots := #[.long (-81)], vm := .none },
  { cls := 20, slots := #[.long (-80)], vm := .none },
  { cls := 20, slots := #[.long (-79)], vm := .none },
  { cls := 20, slots := #[.long (-78)], vm := .none },
  { cls := 20, slots := #[.long (-77)], vm := .none },
  { cls := 20, slots := #[.long (-76)], vm := .none },
  { cls := 20, slots := #[.long (-75)], vm := .none },
  { cls := 20, slots := #[.long (-74)], vm := .none },
  { cls := 20, slots := #[.long (-73)], vm := .none },
  { cls := 20, slots := #[.long (-72)], vm := .none },
  { cls := 20, slots := #[.long (-71)], vm := .none },
  { cls := 20, slots := #[.long (-70)], vm := .none },
  { cls := 20, slots := #[.long (-69)], vm := .none },
  { cls := 20, slots := #[.long (-68)], vm := .none },
  { cls := 20, slots := #[.long (-67)], vm := .none },
  { cls := 20, slots := #[.long (-66)], vm := .none },
  { cls := 20, slots := #[.long (-65)], vm := .none },
  { cls := 20, slots := #[.long (-64)], vm := .none },
  { cls := 20, slots := #[.long (-63)], vm := .none },
  { cls := 20, slots := #[.long (-62)], vm := .none },
  { cls := 20, slots := #[.long (-61)], vm := .none },
  { cls := 20, slots := #[.long (-60)], vm := .none },
  { cls := 20, slots := #[.long (-59)], vm := .none },
  { cls := 20, slots := #[.long (-58)], vm := .none },
  { cls := 20, slots := #[.long (-57)], vm := .none },
  { cls := 20, slots := #[.long (-56)], vm := .none },
  { cls := 20, slots := #[.long (-55)], vm := .none },
  { cls := 20, slots := #[.long (-54)], vm := .none },
  { cls := 20, slots := #[.long (-53)], vm := .none },
  { cls := 20, slots := #[.long (-52)], vm := .none },
  { cls := 20, slots := #[.long (-51)], vm := .none },
  { cls := 20, slots := #[.long (-50)], vm := .none },
  { cls := 20, slots := #[.long (-49)], vm := .none },
  { cls := 20, slots := #[.long (-48)], vm := .none },
  { cls := 20, slots := #[.long (-47)], vm := .none },
  { cls := 20, slots := #[.long (-46)], vm := .none },
  { cls := 20, slots := #[.long (-45)], vm := .none },
  { cls := 20, slots := #[.long (-44)], vm := .none },
  { cls := 20, slots := #[.long (-43)], vm := .none },
  { cls := 20, slots := #[.long (-42)], vm := .none },
  { cls := 20, slots := #[.long (-41)], vm := .none },
  { cls := 20, slots := #[.long (-40)], vm := .none },
  { cls := 20, slots := #[.long (-39)], vm := .none },
  { cls := 20, slots := #[.long (-38)], vm := .none },
  { cls := 20, slots := #[.long (-37)], vm := .none },
  { cls := 20, slots := #[.long (-36)], vm := .none },
  { cls := 20, slots := #[.long (-35)], vm := .none },
  { cls := 20, slots := #[.long (-34)], vm := .none },
  { cls := 20, slots := #[.long (-33)], vm := .none },
  { cls := 20, slots := #[.long (-32)], vm := .none },
  { cls := 20, slots := #[.long (-31)], vm := .none },
  { cls := 20, slots := #[.long (-30)], vm := .none },
  { cls := 20, slots := #[.long (-29)], vm := .none },
  { cls := 20, slots := #[.long (-28)], vm := .none },
  { cls := 20, slots := #[.long (-27)], vm := .none },
  { cls := 20, slots := #[.long (-26)], vm := .none },
  { cls := 20, slots := #[.long (-25)], vm := .none },
  { cls := 20, slots := #[.long (-24)], vm := .none },
  { cls := 20, slots := #[.long (-23)], vm := .none },
  { cls := 20, slots := #[.long (-22)], vm := .none },
  { cls := 20, slots := #[.long (-21)], vm := .none },
  { cls := 20, slots := #[.long (-20)], vm := .none },
  { cls := 20, slots := #[.long (-19)], vm := .none },
  { cls := 20, slots := #[.long (-18)], vm := .none },
  { cls := 20, slots := #[.long (-17)], vm := .none },
  { cls := 20, slots := #[.long (-16)], vm := .none },
  { cls := 20, slots := #[.long (-15)], vm := .none },
  { cls := 20, slots := #[.long (-14)], vm := .none },
  { cls := 20, slots := #[.long (-13)], vm := .none },
  { cls := 20, slots := #[.long (-12)], vm := .none },
  { cls := 20, slots := #[.long (-11)], vm := .none },
  { cls := 20, slots := #[.long (-10)], vm := .none },
  { cls := 20, slots := #[.long (-9)], vm := .none },
  { cls := 20, slots := #[.long (-8)], vm := .none },
  { cls := 20, slots := #[.long (-7)], vm := .none },
  { cls := 20, slots := #[.long (-6)], vm := .none },
  { cls := 20, slots := #[.long (-5)], vm := .none },
  { cls := 20, slots := #[.long (-4)], vm := .none },
  { cls := 20, slots := #[.long (-3)], vm := .none },
  { cls := 20, slots := #[.long (-2)], vm := .none },
  { cls := 20, slots := #[.long (-1)], vm := .none },
  { cls := 20, slots := #[.long 0], vm := .none },
  { cls := 20, slots := #[.long 1], vm := .none },
  { cls := 20, slots := #[.long 2], vm := .none },
  { cls := 20, slots := #[.long 3], vm := .none },
  { cls := 20, slots := #[.long 4], vm := .none },
  { cls := 20, slots := #[.long 5], vm := .none },
  { cls := 20, slots := #[.long 6], vm := .none },
  { cls := 20, slots := #[.long 7], vm := .none },
  { cls := 20, slots := #[.long 8], vm := .none },
  { cls := 20, slots := #[.long 9], vm := .none },
  { cls := 20, slots := #[.long 10], vm := .none },
  { cls := 20, slots := #[.long 11], vm := .none },
  { cls := 20, slots := #[.long 12], vm := .none },
  { cls := 20, slots := #[.long 13], vm := .none },
  { cls := 20, slots := #[.long 14], vm := .none },
  { cls := 20, slots := #[.long 15], vm := .none },
  { cls := 20, slots := #[.long 16], vm := .none },
  { cls := 20, slots := #[.long 17], vm := .none },
  { cls := 20, slots := #[.long 18], vm := .none },
  { cls := 20, slots := #[.long 19], vm := .none },
  { cls := 20, slots := #[.long 20], vm := .none },
  { cls := 20, slots := #[.long 21], vm := .none },
  { cls := 20, slots := #[.long 22], vm := .none },
  { cls := 20, slots := #[.long 23], vm := .none },
  { cls := 20, slots := #[.long 24], vm := .none },
  { cls := 20, slots := #[.long 25], vm := .none },
  { cls := 20, slots := #[.long 26], vm := .none },
  { cls := 20, slots := #[.long 27], vm := .none },
  { cls := 20, slots := #[.long 28], vm := .none },
  { cls := 20, slots := #[.long 29], vm := .none },
  { cls := 20, slots := #[.long 30], vm := .none },
  { cls := 20, slots := #[.long 31], vm := .none },
  { cls := 20, slots := #[.long 32], vm := .none },
  { cls := 20, slots := #[.long 33], vm := .none },
  { cls := 20, slots := #[.long 34], vm := .none },
  { cls := 20, slots := #[.long 35], vm := .none },
  { cls := 20, slots := #[.long 36], vm := .none },
  { cls := 20, slots := #[.long 37], vm := .none },
  { cls := 20, slots := #[.long 38], vm := .none },
  { cls := 20, slots := #[.long 39], vm := .none },
  { cls := 20, slots := #[.long 40], vm := .none },
  { cls := 20, slots := #[.long 41], vm := .none },
  { cls := 20, slots := #[.long 42], vm := .none },
  { cls := 20, slots := #[.long 43], vm := .none },
  { cls := 20, slots := #[.long 44], vm := .none },
  { cls := 20, slots := #[.long 45], vm := .none },
  { cls := 20, slots := #[.long 46], vm := .none },
  { cls := 20, slots := #[.long 47], vm := .none },
  { cls := 20, slots := #[.long 48], vm := .none },
  { cls := 20, slots := #[.long 49], vm := .none },
  { cls := 20, slots := #[.long 50], vm := .none },
  { cls := 20, slots := #[.long 51], vm := .none },
  { cls := 20, slots := #[.long 52], vm := .none },
  { cls := 20, slots := #[.long 53], vm := .none },
  { cls := 20, slots := #[.long 54], vm := .none },
  { cls := 20, slots := #[.long 55], vm := .none },
  { cls := 20, slots := #[.long 56], vm := .none },
  { cls := 20, slots := #[.long 57], vm := .none },
  { cls := 20, slots := #[.long 58], vm := .none },
  { cls := 20, slots := #[.long 59], vm := .none },
  { cls := 20, slots := #[.long 60], vm := .none },
  { cls := 20, slots := #[.long 61], vm := .none },
  { cls := 20, slots := #[.long 62], vm := .none },
  { cls := 20, slots := #[.long 63], vm := .none },
  { cls := 20, slots := #[.long 64], vm := .none },
  { cls := 20, slots := #[.long 65], vm := .none },
  { cls := 20, slots := #[.long 66], vm := .none },
  { cls := 20, slots := #[.long 67], vm := .none },
  { cls := 20, slots := #[.long 68], vm := .none },
  { cls := 20, slots := #[.long 69], vm := .none },
  { cls := 20, slots := #[.long 70], vm := .none },
  { cls := 20, slots := #[.long 71], vm := .none },
  { cls := 20, slots := #[.long 72], vm := .none },
  { cls := 20, slots := #[.long 73], vm := .none },
  { cls := 20, slots := #[.long 74], vm := .none },
  { cls := 20, slots := #[.long 75], vm := .none },
  { cls := 20, slots := #[.long 76], vm := .none },
  { cls := 20, slots := #[.long 77], vm := .none },
  { cls := 20, slots := #[.long 78], vm := .none },
  { cls := 20, slots := #[.long 79], vm := .none },
  { cls := 20, slots := #[.long 80], vm := .none },
  { cls := 20, slots := #[.long 81], vm := .none },
  { cls := 20, slots := #[.long 82], vm := .none },
  { cls := 20, slots := #[.long 83], vm := .none },
  { cls := 20, slots := #[.long 84], vm := .none },
  { cls := 20, slots := #[.long 85], vm := .none },
  { cls := 20, slots := #[.long 86], vm := .none },
  { cls := 20, slots := #[.long 87], vm := .none },
  { cls := 20, slots := #[.long 88], vm := .none },
  { cls := 20, slots := #[.long 89], vm := .none },
  { cls := 20, slots := #[.long 90], vm := .none },
  { cls := 20, slots := #[.long 91], vm := .none },
  { cls := 20, slots := #[.long 92], vm := .none },
  { cls := 20, slots := #[.long 93], vm := .none },
  { cls := 20, slots := #[.long 94], vm := .none },
  { cls := 20, slots := #[.long 95], vm := .none },
  { cls := 20, slots := #[.long 96], vm := .none },
  { cls := 20, slots := #[.long 97], vm := .none },
  { cls := 20, slots := #[.long 98], vm := .none },
  { cls := 20, slots := #[.long 99], vm := .none },
  { cls := 20, slots := #[.long 100], vm := .none },
  { cls := 20, slots := #[.long 101], vm := .none },
  { cls := 20, slots := #[.long 102], vm := .none },
  { cls := 20, slots := #[.long 103], vm := .none },
  { cls := 20, slots := #[.long 104], vm := .none },
  { cls := 20, slots := #[.long 105], vm := .none },
  { cls := 20, slots := #[.long 106], vm := .none },
  { cls := 20, slots := #[.long 107], vm := .none },
  { cls := 20, slots := #[.long 108], vm := .none },
  { cls := 20, slots := #[.long 109], vm := .none },
  { cls := 20, slots := #[.long 110], vm := .none },
  { cls := 20, slots := #[.long 111], vm := .none },
  { cls := 20, slots := #[.long 112], vm := .none },
  { cls := 20, slots := #[.long 113], vm := .none },
  { cls := 20, slots := #[.long 114], vm := .none },
  { cls := 20, slots := #[.long 115], vm := .none },
  { cls := 20, slots := #[.long 116], vm := .none },
  { cls := 20, slots := #[.long 117], vm := .none },
  { cls := 20, slots := #[.long 118], vm := .none },
  { cls := 20, slots := #[.long 119], vm := .none },
  { cls := 20, slots := #[.long 120], vm := .none },
  { cls := 20, slots := #[.long 121], vm := .none },
  { cls := 20, slots := #[.long 122], vm := .none },
  { cls := 20, slots := #[.long 123], vm := .none },
  { cls := 20, slots := #[.long 124], vm := .none },
  { cls := 20, slots := #[.long 125], vm := .none },
  { cls := 20, slots := #[.long 126], vm := .none },
  { cls := 20, slots := #[.long 127], vm := .none },
  { cls := 17, slots := #[.ref 260, .int 2, .int 0, .long 1000000, .long 9223372036854, .long 9223372036854775, .long 9223372036854775807, .long 9223372036854775, .long 1000, .int 1, .int 1000], vm := .none },
  { cls := 28, slots := #[], vm := .none }]
def classes : Array Class := #[k0, k1, k2, k3, k4, k5, k6, k7, k8, k9, k10, k11, k12, k13, k14, k15, k16, k17, k18, k19, k20, k21, k22, k23, k24, k25, k26, k27, k28]
def interned : List (Array UInt16 × Addr) := []
def slotsUsed : Nat := 541
def theMethod : MethodId := ⟨1, 1⟩
def args0 : Array Value := #[.long 7, .long 7, .long 7, .int 5, .int 5]
def aboutOver (below : List Frame) : State where
  vm := { classes := classes, interned := interned.toArray }
  heap := heap
  slotsUsed := slotsUsed
  threads := #[{ frames := .invoking theMethod args0 :: below }]
def below0 : List Frame := [.native { method := ⟨0, 0⟩, args := #[] }]
def about1 : State := aboutOver below0
def p0 : Program := .bare "" "" ""
def e0 : Env := launch0.env 0 0 0
theorem w_frames : about1.frames = Frame.invoking theMethod args0 :: below0 := rfl
set_option maxRecDepth 65536 in
theorem w_args : argsFit about1.vm theMethod args0 = true := by decide +kernel
set_option maxRecDepth 65536 in
theorem w_heap : heapFits about1 = true := by decide +kernel
set_option maxRecDepth 65536 in
theorem w_runnable : about1.curStatus? = some .runnable := by decide +kernel
set_option maxRecDepth 65536 in
theorem w_alone : about1.alone = true := by decide +kernel
set_option maxRecDepth 65536 in
theorem w_named : about1.methodNamed? x = some theMethod := by decide +kernel
set_option maxRecDepth 65536 in
theorem w_hears : about1.hears theMethod below0 = true := by decide +kernel
set_option maxRecDepth 65536 in
theorem w_ripe : about1.ripe theMethod args0 below0 = true := by decide +kernel
theorem w_running : about1.status = .running := rfl
set_option maxRecDepth 65536 in
theorem w_room : about1.hasRoom e0.platform room_1 = true :=
  launch0.hasRoom_least _ room_1 (by decide +kernel) (by decide +kernel) (by decide +kernel) (by decide +kernel) (by decide +kernel) (by decide +kernel)
theorem allAtoms_all (ts : List Jvm.Cond) (a : Array Jvm.Value) (st : Jvm.State) : (allAtoms ts).before a st = ts.all (fun c => c.before a st) := by
  induction ts with
  | nil => rfl
  | cons c t ih =>
    show (Jvm.Cond.and c (allAtoms t)).before a st = _
    rw [Jvm.Cond.before_and, ih, List.all_cons]
def words1 : List Jvm.Cond := Jvm.Cond.code x code maxLocals ret :: tables_1
/-- a 'code' word, met by the world's own term for the bytes: nothing is compared byte by byte -/
theorem code_word {y : MethodName} {bytes : ByteArray} {mx : Nat} {rt : Option FieldType} {a : Array Value} {s : State} {m : MethodId} {meth : Method} {c : Code} (h1 : s.methodNamed? y = some m) (h2 : s.vm.method? m = some meth) (h3 : meth.code = some c) (h4 : c.code = bytes)
    (h5 : (c.maxLocals == mx && c.exceptionTable.isEmpty && decide (c.maxStack ≤ mostOperands) && decide (meth.sig.returnType = rt) && !meth.locks && decide (parseMethodDescriptor y.desc = some meth.sig)) = true) : (Jvm.Cond.code y bytes mx rt).before a s = true := by
  simp only [Bool.and_eq_true, beq_iff_eq, Bool.not_eq_true', decide_eq_true_eq] at h5
  obtain ⟨⟨⟨⟨⟨g1, g2⟩, g3⟩, g4⟩, g5⟩, g6⟩ := h5
  simp [Cond.before, Cond.holds, Cond.value, h1, h2, h3, h4, g1, g2, g3, g4, g5, g6]
def isCode : Jvm.Cond → Bool
  | .code _ _ _ _ => true
  | _ => false
theorem all_split {L : List Jvm.Cond} {P : Jvm.Cond → Bool} (h1 : L.all (fun c => isCode c || P c) = true) (h2 : ∀ c ∈ L.filter isCode, P c = true) : L.all P = true := by
  refine List.all_eq_true.mpr fun c hc => ?_
  have h := List.all_eq_true.mp h1 c hc
  rcases Bool.eq_false_or_eq_true (isCode c) with hi | hi
  · exact h2 c (List.mem_filter.mpr ⟨hc, hi⟩)
  · simpa [hi] using h
set_option maxRecDepth 65536 in
theorem w_c0 : (Jvm.Cond.code x code maxLocals ret).before args0 about1 = true := code_word (m := ⟨1, 1⟩) (meth := k1m1) (c := k1c1) (by decide +kernel) rfl rfl rfl (by decide +kernel)
set_option maxRecDepth 65536 in
theorem w_c1 : (Jvm.Cond.code ({ cls := "java/lang/Math", name := "max", desc := "(II)I" } : Jvm.MethodName) jdk_29_method_65_code (2 : Nat) (Option.some Jvm.ClassFile.FieldType.int)).before args0 about1 = true := code_word (m := ⟨2, 1⟩) (meth := k2m1) (c := k2c1) (by decide +kernel) rfl rfl rfl (by decide +kernel)
set_option maxRecDepth 65536 in
theorem w_c2 : (Jvm.Cond.code ({ cls := "com/example/gated_chorus/gatedchorus/limit/Ban", name := "<init>", desc := "(III)V" } : Jvm.MethodName) prog_16_method_1_code (4 : Nat) (Option.none : Option Jvm.ClassFile.FieldType)).before args0 about1 = true := code_word (m := ⟨4, 0⟩) (meth := k4m0) (c := k4c0) (by decide +kernel) rfl rfl rfl (by decide +kernel)
set_option maxRecDepth 65536 in
theorem w_c3 : (Jvm.Cond.code ({ cls := "java/lang/Object", name := "<init>", desc := "()V" } : Jvm.MethodName) object_method_1_code (1 : Nat) (Option.none : Option Jvm.ClassFile.FieldType)).before args0 about1 = true := code_word (m := ⟨0, 0⟩) (meth := k0m0) (c := k0c0) (by decide +kernel) rfl rfl rfl (by decide +kernel)
set_option maxRecDepth 65536 in
theorem w_c4 : (Jvm.Cond.code ({ cls := "com/example/gated_chorus/gatedchorus/limit/Kicks", name := "<init>", desc := "(Lcom/example/gated_chorus/gatedchorus/limit/Ban;)V" } : Jvm.MethodName) prog_17_method_1_code (2 : Nat) (Option.none : Option Jvm.ClassFile.FieldType)).before args0 about1 = true := code_word (m := ⟨3, 0⟩) (meth := k3m0) (c := k3c0) (by decide +kernel) rfl rfl rfl (by decide +kernel)
set_option maxRecDepth 65536 in
theorem w_c5 : (Jvm.Cond.code ({ cls := "java/util/ArrayDeque", name := "<init>", desc := "()V" } : Jvm.MethodName) jdk_21_method_3_code (1 : Nat) (Option.none : Option Jvm.ClassFile.FieldType)).before args0 about1 = true := code_word (m := ⟨13, 0⟩) (meth := k13m0) (c := k13c0) (by decide +kernel) rfl rfl rfl (by decide +kernel)
set_option maxRecDepth 65536 in
theorem w_c6 : (Jvm.Cond.code ({ cls := "java/util/AbstractCollection", name := "<init>", desc := "()V" } : Jvm.MethodName) jdk_22_method_1_code (1 : Nat) (Option.none : Option Jvm.ClassFile.FieldType)).before args0 about1 = true := code_word (m := ⟨7, 0⟩) (meth := k7m0) (c := k7c0) (by decide +kernel) rfl rfl rfl (by decide +kernel)
set_option maxRecDepth 65536 in
theorem w_c7 : (Jvm.Cond.code ({ cls := "com/example/gated_chorus/gatedchorus/limit/Ban", name := "kicks", desc := "()I" } : Jvm.MethodName) prog_16_method_2_code (1 : Nat) (Option.some Jvm.ClassFile.FieldType.int)).before args0 about1 = true := code_word (m := ⟨4, 1⟩) (meth := k4m1) (c := k4c1) (by decide +kernel) rfl rfl rfl (by decide +kernel)
set_option maxRecDepth 65536 in
theorem w_c8 : (Jvm.Cond.code ({ cls := "com/example/gated_chorus/gatedchorus/limit/Ban", name := "withinMs", desc := "()I" } : Jvm.MethodName) prog_16_method_3_code (1 : Nat) (Option.some Jvm.ClassFile.FieldType.int)).before args0 about1 = true := code_word (m := ⟨4, 2⟩) (meth := k4m2) (c := k4c2) (by decide +kernel) rfl rfl rfl (by decide +kernel)
set_option maxRecDepth 65536 in
theorem w_c9 : (Jvm.Cond.code ({ cls := "java/util/concurrent/TimeUnit", name := "toNanos", desc := "(J)J" } : Jvm.MethodName) jdk_2799_method_7_code (7 : Nat) (Option.some Jvm.ClassFile.FieldType.long)).before args0 about1 = true := code_word (m := ⟨17, 0⟩) (meth := k17m0) (c := k17c0) (by decide +kernel) rfl rfl rfl (by decide +kernel)
set_option maxRecDepth 65536 in
theorem w_c10 : (Jvm.Cond.code ({ cls := "com/example/gated_chorus/gatedchorus/limit/Ban", name := "forMs", desc := "()I" } : Jvm.MethodName) prog_16_method_4_code (1 : Nat) (Option.some Jvm.ClassFile.FieldType.int)).before args0 about1 = true := code_word (m := ⟨4, 3⟩) (meth := k4m3) (c := k4c3) (by decide +kernel) rfl rfl rfl (by decide +kernel)
set_option maxRecDepth 65536 in
theorem w_c11 : (Jvm.Cond.code ({ cls := "com/example/gated_chorus/gatedchorus/limit/Kicks", name := "kick", desc := "(J)Z" } : Jvm.MethodName) prog_17_method_2_code (3 : Nat) (Option.some Jvm.ClassFile.FieldType.boolean)).before args0 about1 = true := code_word (m := ⟨3, 1⟩) (meth := k3m1) (c := k3c1) (by decide +kernel) rfl rfl rfl (by decide +kernel)
set_option maxRecDepth 65536 in
theorem w_c12 : (Jvm.Cond.code ({ cls := "java/util/ArrayDeque", name := "isEmpty", desc := "()Z" } : Jvm.MethodName) jdk_21_method_38_code (1 : Nat) (Option.some Jvm.ClassFile.FieldType.boolean)).before args0 about1 = true := code_word (m := ⟨13, 5⟩) (meth := k13m5) (c := k13c5) (by decide +kernel) rfl rfl rfl (by decide +kernel)
set_option maxRecDepth 65536 in
theorem w_c13 : (Jvm.Cond.code ({ cls := "java/lang/Long", name := "valueOf", desc := "(J)Ljava/lang/Long;" } : Jvm.MethodName) jdk_35_method_24_code (3 : Nat) (Option.some (Jvm.ClassFile.FieldType.object "java/lang/Long"))).before args0 about1 = true := code_word (m := ⟨20, 0⟩) (meth := k20m0) (c := k20c0) (by decide +kernel) rfl rfl rfl (by decide +kernel)
set_option maxRecDepth 65536 in
theorem w_c14 : (Jvm.Cond.code ({ cls := "java/util/ArrayDeque", name := "addLast", desc := "(Ljava/lang/Object;)V" } : Jvm.MethodName) jdk_21_method_13_code (3 : Nat) (Option.none : Option Jvm.ClassFile.FieldType)).before args0 about1 = true := code_word (m := ⟨13, 3⟩) (meth := k13m3) (c := k13c3) (by decide +kernel) rfl rfl rfl (by decide +kernel)
set_option maxRecDepth 65536 in
theorem w_c15 : (Jvm.Cond.code ({ cls := "java/util/ArrayDeque", name := "inc", desc := "(II)I" } : Jvm.MethodName) jdk_21_method_6_code (2 : Nat) (Option.some Jvm.ClassFile.FieldType.int)).before args0 about1 = true := code_word (m := ⟨13, 1⟩) (meth := k13m1) (c := k13c1) (by decide +kernel) rfl rfl rfl (by decide +kernel)
set_option maxRecDepth 65536 in
theorem w_c16 : (Jvm.Cond.code ({ cls := "java/util/ArrayDeque", name := "size", desc := "()I" } : Jvm.MethodName) jdk_21_method_37_code (1 : Nat) (Option.some Jvm.ClassFile.FieldType.int)).before args0 about1 = true := code_word (m := ⟨13, 4⟩) (meth := k13m4) (c := k13c4) (by decide +kernel) rfl rfl rfl (by decide +kernel)
set_option maxRecDepth 65536 in
theorem w_c17 : (Jvm.Cond.code ({ cls := "java/util/ArrayDeque", name := "sub", desc := "(III)I" } : Jvm.MethodName) jdk_21_method_9_code (3 : Nat) (Option.some Jvm.ClassFile.FieldType.int)).before args0 about1 = true := code_word (m := ⟨13, 2⟩) (meth := k13m2) (c := k13c2) (by decide +kernel) rfl rfl rfl (by decide +kernel)
set_option maxRecDepth 65536 in
theorem w_c18 : (Jvm.Cond.code ({ cls := "java/util/ArrayDeque", name := "clear", desc := "()V" } : Jvm.MethodName) jdk_21_method_53_code (1 : Nat) (Option.none : Option Jvm.ClassFile.FieldType)).before args0 about1 = true := code_word (m := ⟨13, 6⟩) (meth := k13m6) (c := k13c6) (by decide +kernel) rfl rfl rfl (by decide +kernel)
set_option maxRecDepth 65536 in
theorem w_c19 : (Jvm.Cond.code ({ cls := "java/util/ArrayDeque", name := "circularClear", desc := "([Ljava/lang/Object;II)V" } : Jvm.MethodName) jdk_21_method_54_code (4 : Nat) (Option.none : Option Jvm.ClassFile.FieldType)).before args0 about1 = true := code_word (m := ⟨13, 7⟩) (meth := k13m7) (c := k13c7) (by decide +kernel) rfl rfl rfl (by decide +kernel)
set_option maxRecDepth 65536 in
theorem w_c20 : (Jvm.Cond.code ({ cls := "com/example/gated_chorus/gatedchorus/limit/Kicks", name := "isBanned", desc := "(J)Z" } : Jvm.MethodName) prog_17_method_3_code (3 : Nat) (Option.some Jvm.ClassFile.FieldType.boolean)).before args0 about1 = true := code_word (m := ⟨3, 2⟩) (meth := k3m2) (c := k3c2) (by decide +kernel) rfl rfl rfl (by decide +kernel)
set_option maxRecDepth 65536 in
theorem w_c21 : (Jvm.Cond.code ({ cls := "java/lang/Long", name := "<init>", desc := "(J)V" } : Jvm.MethodName) jdk_35_method_26_code (3 : Nat) (Option.none : Option Jvm.ClassFile.FieldType)).before args0 about1 = true := code_word (m := ⟨20, 1⟩) (meth := k20m1) (c := k20c1) (by decide +kernel) rfl rfl rfl (by decide +kernel)
set_option maxRecDepth 65536 in
theorem w_c22 : (Jvm.Cond.code ({ cls := "java/lang/Number", name := "<init>", desc := "()V" } : Jvm.MethodName) jdk_18_method_1_code (1 : Nat) (Option.none : Option Jvm.ClassFile.FieldType)).before args0 about1 = true := code_word (m := ⟨18, 0⟩) (meth := k18m0) (c := k18c0) (by decide +kernel) rfl rfl rfl (by decide +kernel)
def codes1 : List Jvm.Cond := [Jvm.Cond.code x code maxLocals ret, Jvm.Cond.code ({ cls := "java/lang/Math", name := "max", desc := "(II)I" } : Jvm.MethodName) jdk_29_method_65_code (2 : Nat) (Option.some Jvm.ClassFile.FieldType.int), Jvm.Cond.code ({ cls := "com/example/gated_chorus/gatedchorus/limit/Ban", name := "<init>", desc := "(III)V" } : Jvm.MethodName) prog_16_method_1_code (4 : Nat) (Option.none : Option Jvm.ClassFile.FieldType), Jvm.Cond.code ({ cls := "java/lang/Object", name := "<init>", desc := "()V" } : Jvm.MethodName) object_method_1_code (1 : Nat) (Option.none : Option Jvm.ClassFile.FieldType), Jvm.Cond.code ({ cls := "com/example/gated_chorus/gatedchorus/limit/Kicks", name := "<init>", desc := "(Lcom/example/gated_chorus/gatedchorus/limit/Ban;)V" } : Jvm.MethodName) prog_17_method_1_code (2 : Nat) (Option.none : Option Jvm.ClassFile.FieldType), Jvm.Cond.code ({ cls := "java/util/ArrayDeque", name := "<init>", desc := "()V" } : Jvm.MethodName) jdk_21_method_3_code (1 : Nat) (Option.none : Option Jvm.ClassFile.FieldType), Jvm.Cond.code ({ cls := "java/util/AbstractCollection", name := "<init>", desc := "()V" } : Jvm.MethodName) jdk_22_method_1_code (1 : Nat) (Option.none : Option Jvm.ClassFile.FieldType), Jvm.Cond.code ({ cls := "com/example/gated_chorus/gatedchorus/limit/Ban", name := "kicks", desc := "()I" } : Jvm.MethodName) prog_16_method_2_code (1 : Nat) (Option.some Jvm.ClassFile.FieldType.int), Jvm.Cond.code ({ cls := "com/example/gated_chorus/gatedchorus/limit/Ban", name := "withinMs", desc := "()I" } : Jvm.MethodName) prog_16_method_3_code (1 : Nat) (Option.some Jvm.ClassFile.FieldType.int), Jvm.Cond.code ({ cls := "java/util/concurrent/TimeUnit", name := "toNanos", desc := "(J)J" } : Jvm.MethodName) jdk_2799_method_7_code (7 : Nat) (Option.some Jvm.ClassFile.FieldType.long), Jvm.Cond.code ({ cls := "com/example/gated_chorus/gatedchorus/limit/Ban", name := "forMs", desc := "()I" } : Jvm.MethodName) prog_16_method_4_code (1 : Nat) (Option.some Jvm.ClassFile.FieldType.int), Jvm.Cond.code ({ cls := "com/example/gated_chorus/gatedchorus/limit/Kicks", name := "kick", desc := "(J)Z" } : Jvm.MethodName) prog_17_method_2_code (3 : Nat) (Option.some Jvm.ClassFile.FieldType.boolean), Jvm.Cond.code ({ cls := "java/util/ArrayDeque", name := "isEmpty", desc := "()Z" } : Jvm.MethodName) jdk_21_method_38_code (1 : Nat) (Option.some Jvm.ClassFile.FieldType.boolean), Jvm.Cond.code ({ cls := "java/lang/Long", name := "valueOf", desc := "(J)Ljava/lang/Long;" } : Jvm.MethodName) jdk_35_method_24_code (3 : Nat) (Option.some (Jvm.ClassFile.FieldType.object "java/lang/Long")), Jvm.Cond.code ({ cls := "java/util/ArrayDeque", name := "addLast", desc := "(Ljava/lang/Object;)V" } : Jvm.MethodName) jdk_21_method_13_code (3 : Nat) (Option.none : Option Jvm.ClassFile.FieldType), Jvm.Cond.code ({ cls := "java/util/ArrayDeque", name := "inc", desc := "(II)I" } : Jvm.MethodName) jdk_21_method_6_code (2 : Nat) (Option.some Jvm.ClassFile.FieldType.int), Jvm.Cond.code ({ cls := "java/util/ArrayDeque", name := "size", desc := "()I" } : Jvm.MethodName) jdk_21_method_37_code (1 : Nat) (Option.some Jvm.ClassFile.FieldType.int), Jvm.Cond.code ({ cls := "java/util/ArrayDeque", name := "sub", desc := "(III)I" } : Jvm.MethodName) jdk_21_method_9_code (3 : Nat) (Option.some Jvm.ClassFile.FieldType.int), Jvm.Cond.code ({ cls := "java/util/ArrayDeque", name := "clear", desc := "()V" } : Jvm.MethodName) jdk_21_method_53_code (1 : Nat) (Option.none : Option Jvm.ClassFile.FieldType), Jvm.Cond.code ({ cls := "java/util/ArrayDeque", name := "circularClear", desc := "([Ljava/lang/Object;II)V" } : Jvm.MethodName) jdk_21_method_54_code (4 : Nat) (Option.none : Option Jvm.ClassFile.FieldType), Jvm.Cond.code ({ cls := "com/example/gated_chorus/gatedchorus/limit/Kicks", name := "isBanned", desc := "(J)Z" } : Jvm.MethodName) prog_17_method_3_code (3 : Nat) (Option.some Jvm.ClassFile.FieldType.boolean), Jvm.Cond.code ({ cls := "java/lang/Long", name := "<init>", desc := "(J)V" } : Jvm.MethodName) jdk_35_method_26_code (3 : Nat) (Option.none : Option Jvm.ClassFile.FieldType), Jvm.Cond.code ({ cls := "java/lang/Number", name := "<init>", desc := "()V" } : Jvm.MethodName) jdk_18_method_1_code (1 : Nat) (Option.none : Option Jvm.ClassFile.FieldType)]
set_option maxRecDepth 65536 in
theorem codes_eq : words1.filter isCode = codes1 := rfl
theorem w_codes : ∀ c ∈ words1.filter isCode, c.before args0 about1 = true := by
  rw [codes_eq]
  intro c hc
  simp only [codes1, List.mem_cons, List.not_mem_nil, or_false] at hc
  rcases hc with rfl | rfl | rfl | rfl | rfl | rfl | rfl | rfl | rfl | rfl | rfl | rfl | rfl | rfl | rfl | rfl | rfl | rfl | rfl | rfl | rfl | rfl | rfl
  · exact w_c0
  · exact w_c1
  · exact w_c2
  · exact w_c3
  · exact w_c4
  · exact w_c5
  · exact w_c6
  · exact w_c7
  · exact w_c8
  · exact w_c9
  · exact w_c10
  · exact w_c11
  · exact w_c12
  · exact w_c13
  · exact w_c14
  · exact w_c15
  · exact w_c16
  · exact w_c17
  · exact w_c18
  · exact w_c19
  · exact w_c20
  · exact w_c21
  · exact w_c22
set_option maxRecDepth 65536 in
theorem w_t1 : (words1.take 24).all (fun c => isCode c || c.before args0 about1) = true := by decide +kernel
set_option maxRecDepth 65536 in
theorem w_t2 : ((words1.drop 24).take 24).all (fun c => isCode c || c.before args0 about1) = true := by decide +kernel
set_option maxRecDepth 65536 in
theorem w_t3 : (((words1.drop 24).drop 24).take 24).all (fun c => isCode c || c.before args0 about1) = true := by decide +kernel
set_option maxRecDepth 65536 in
theorem w_t4 : ((((words1.drop 24).drop 24).drop 24).take 24).all (fun c => isCode c || c.before args0 about1) = true := by decide +kernel
set_option maxRecDepth 65536 in
theorem w_t5 : (((((words1.drop 24).drop 24).drop 24).drop 24).take 24).all (fun c => isCode c || c.before args0 about1) = true := by decide +kernel
set_option maxRecDepth 65536 in
theorem w_t6 : ((((((words1.drop 24).drop 24).drop 24).drop 24).drop 24).take 24).all (fun c => isCode c || c.before args0 about1) = true := by decide +kernel
set_option maxRecDepth 65536 in
theorem w_t7 : ((((((words1.drop 24).drop 24).drop 24).drop 24).drop 24).drop 24).all (fun c => isCode c || c.before args0 about1) = true := by decide +kernel
theorem w_tables : (allAtoms (Jvm.Cond.code x code maxLocals ret :: tables_1)).before args0 about1 = true := by
  rw [allAtoms_all]
  show words1.all (fun c => c.before args0 about1) = true
  refine all_split ?_ w_codes
  rw [← List.take_append_drop 24 words1, List.all_append, w_t1, ← List.take_append_drop 24 (words1.drop 24), List.all_append, w_t2, ← List.take_append_drop 24 ((words1.drop 24).drop 24), List.all_append, w_t3, ← List.take_append_drop 24 (((words1.drop 24).drop 24).drop 24), List.all_append, w_t4, ← List.take_append_drop 24 ((((words1.drop 24).drop 24).drop 24).drop 24), List.all_append, w_t5, ← List.take_append_drop 24 (((((words1.drop 24).drop 24).drop 24).drop 24).drop 24), List.all_append, w_t6, w_t7]
  rfl
set_option maxRecDepth 65536 in
theorem w_rest : rest_1_c.before args0 about1 = true := by decide +kernel
set_option maxRecDepth 65536 in
theorem w_case : (Jvm.Cond.and given_1 narrow_1).before args0 about1 = true := by decide +kernel
theorem w_applies : (headSpec (Jvm.Cond.code x code maxLocals ret :: tables_1) room_1).applies x e0.platform about1 = true :=
  (Spec.applies_iff w_frames).mpr ⟨w_running, w_runnable, w_alone, w_named, w_hears, w_ripe, w_room, w_tables⟩
theorem atStart : AtStart classFile x code maxLocals ret World_1 tables_1 room_1 Calls_1 rest_1 Pre_1 launch0 p0 e0 about1 theMethod args0 below0 :=
  ⟨lists_1, trivial, launch0.admits_env _ _ _, launch0.least_env, fairChoices_fair.cas, fairChoices_fair.clock, w_frames, w_args, w_heap, w_applies, trivial, w_rest, w_case⟩
end start1
theorem witness_1 : WitnessClaimed_1 := ⟨start1.p0, start1.e0, start1.about1, start1.theMethod, start1.args0, start1.below0, start1.atStart⟩
end Jvm.Pilot.@@N@@
