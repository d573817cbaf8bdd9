import JvmDerived
import JvmDerived.Pilot.@@N@@Statement
import JvmDerived.Pilot.@@N@@Code
set_option linter.unusedVariables false
set_option linter.unusedSimpArgs false
namespace Jvm.RoadKit
open Sem ClassFile Op Lib Jvm.Stand Jvm.Free Jvm.LawKit
section New
variable {p : Program} {l : Launch} {e : Env} {R : Room} {s : State} {m : MethodId} {args : Array Value} {below : List Frame} {meth : Method} {c : Code} {T : State} {locs : List Loc} {cells slots : Nat}
theorem retI (X : Stand p l e R s m args below meth c T locs cells slots) (hx : p.tables.exec = Jvm.exec) {pc : Nat} {Ls : Array Slot} {z : Int32} {rest : List Value} (hret : meth.sig.returnType = some .int) (hd : decode c.code pc = .ok (.ireturn, 1)) {fs : List Frame}
    (hl : ∀ (f : JFrame) (acts : List Action), f.method = m → f.locked = none → f.entered = [] → (doReturn e (T.setTop f) acts (some (.int z))).1 = T.setFrames fs) : Steps p.tables e below (T.setTop (mkF m pc Ls (.int z :: rest))) (T.setFrames fs) := by
  have hm' : T.vm.method? m = some meth := X.method'
  have hn : narrow .int (.int z) = .int z := rfl
  show Steps p.tables e below (T.setTop { method := m, pc := pc, locals := Ls, stack := _ :: rest, locked := none }) _
  jvm_step X.here [X.here.top, hx, hd, hm', hret, hn]
  first | (intro acts; rw [hl _ acts rfl rfl rfl]) | rw [hl _ _ rfl rfl rfl]
  exact Steps.refl _
end New
variable {Z : State} {h h' : Heap} {C n d : String} {v w : Value} {ws : List Addr}
theorem own_staKeep (F : Sta Z h C n d v) (K : Keep h h' ws) (q : ∀ x ∈ ws, ∀ c : Cell, h[x]? = some c → c.vm.isStatics = false) : Sta Z h' C n d v := by
  obtain ⟨cf, i, k, f, st, cell, h1, h2, h3, h4, h5, h6, h7⟩ := F
  refine ⟨cf, i, k, f, st, cell, h1, h2, h3, h4, K.2.1 _ _ h5 (fun r => ?_), h6, h7⟩
  rw [q _ r _ h5] at h6; cases h6
theorem own_staNew {n0 : Nat} (F : Sta Z h C n d v) (K : Keep h h' ws) (hn : ∀ x ∈ ws, n0 ≤ x) (hs : ∀ (x : Addr) (c : Cell), h[x]? = some c → c.vm.isStatics = true → x < n0) : Sta Z h' C n d v := by
  obtain ⟨cf, i, k, f, st, cell, h1, h2, h3, h4, h5, h6, h7⟩ := F
  exact ⟨cf, i, k, f, st, cell, h1, h2, h3, h4, K.2.1 _ _ h5 (fun r => absurd (hs _ _ h5 h6) (Nat.not_lt.mpr (hn _ r))), h6, h7⟩
theorem own_fldI {args : Array Value} {s : State} {t : Term} {a : Addr} {C n d : String} {k : Int32} (ht : t.eval args s none [] s = some (.ref a)) (h : (Cond.eq (.field t C n d) (.int k)).value args s none s [] = some true) : Fld s s.heap a C n d (.int k) := Fld.start ((fld_at ht).symm.trans (eqv_i rfl h))
theorem own_fldR {args : Array Value} {s : State} {t u : Term} {a b : Addr} {C n d : String} (ht : t.eval args s none [] s = some (.ref a)) (hu : u.eval args s none [] s = some (.ref b)) (h : (Cond.eq (.field t C n d) u).value args s none s [] = some true) : Fld s s.heap a C n d (.ref b) := by
  obtain ⟨x, y, ex, ey, kx, ky⟩ := cmp_v (Or.inl h)
  have e1 : s.fieldOf? a C n d = some x := by rw [← fld_at ht]; exact ex
  cases hu.symm.trans ey
  have q : x = .ref b := by
    cases x <;> simp [Cond.value, ex, hu] at h ⊢
    exact h
  exact Fld.start (by rw [e1, q])
theorem own_staL {args : Array Value} {s : State} {C n d : String} {k : Int64} (h : (Cond.eq (.static C n d) (.long k)).value args s none s [] = some true) : (Term.static C n d).eval args s none [] s = some (.long k) := eqv_l rfl h
end Jvm.RoadKit
namespace Jvm.Pilot.@@N@@
open Jvm Jvm.ClassFile Sem Op Lib Jvm.Free Jvm.Stand Jvm.LawKit Jvm.RoadKit Bundle Jvm.Pilot.@@N@@.Jvm.D
theorem pd__I_I : parseMethodDescriptor "(I)I" = some ⟨[.int], some .int⟩ := by decide +kernel
theorem pd__II_I : parseMethodDescriptor "(II)I" = some ⟨[.int, .int], some .int⟩ := by decide +kernel
def own_max (a b : Int32) : Int32 := if a < b then b else a
abbrev own_sh (x k : Int32) : Int32 := (x.toUInt32 >>> (k &&& 31).toUInt32).toInt32
def own_n4 (n x : Int32) : Int32 := n - own_sh x 1
def own_n3 (n x : Int32) : Int32 := if x < 4 then own_n4 n x else own_n4 (n + -2) (own_sh x 2)
def own_n2 (n x : Int32) : Int32 := if x < 16 then own_n3 n x else own_n3 (n + -4) (own_sh x 4)
def own_n1 (n x : Int32) : Int32 := if x < 256 then own_n2 n x else own_n2 (n + -8) (own_sh x 8)
def own_n0 (x : Int32) : Int32 := if x < 65536 then own_n1 31 x else own_n1 (31 + -16) (own_sh x 16)
def own_hob (x : Int32) : Int32 := x &&& own_sh (-2147483648) (own_n0 x)
def own_slots (k : Int32) : Int32 := own_hob (own_max 1 ((4 * k) - 1)) <<< ((1 : Int32) &&& 31)
theorem own_shI (x k : Int32) (n : Nat) (hk : k.toBitVec.toNat % 32 = n) (h0 : 0 < n) (hx : 0 ≤ x.toInt) : (own_sh x k).toInt = x.toInt / ((2 ^ n : Nat) : Int) := by
  rw [show own_sh x k = (x.toUInt32 >>> (k &&& 31).toUInt32).toInt32 from rfl, c_iushr x k n hk h0]
  have := rng32 x
  rw [Int.emod_eq_of_lt hx (by omega)]
theorem own_andN (x m : Nat) (h1 : 2 ^ m ≤ x) (h2 : x < 2 ^ (m + 1)) : x &&& 2 ^ m = 2 ^ m := by
  apply Nat.eq_of_testBit_eq
  intro j
  rw [Nat.testBit_and, Nat.testBit_two_pow]
  by_cases q : m = j
  · subst q
    have e : x / 2 ^ m = 1 := by
      apply Nat.div_eq_of_lt_le
      · rw [Nat.one_mul]; exact h1
      · rw [Nat.pow_succ] at h2
        rw [Nat.mul_comm] at h2
        exact h2
    simp [Nat.testBit_eq_decide_div_mod_eq, e]
  · simp [q]
theorem own_andp (x p : Int32) (m : Nat) (hp : p.toBitVec.toNat = 2 ^ m) (h1 : ((2 ^ m : Nat) : Int) ≤ x.toInt) (h2 : x.toInt < ((2 ^ (m + 1) : Nat) : Int)) : x &&& p = p := by
  have hx : x.toInt = (x.toBitVec.toNat : Int) := by
    have hb := x.toBitVec.isLt
    have hpos : (0 : Int) ≤ ((2 ^ m : Nat) : Int) := Int.natCast_nonneg _
    have e : x.toInt = x.toBitVec.toInt := rfl
    rw [e, BitVec.toInt_eq_toNat_cond] at h1 ⊢
    split
    · rfl
    · rename_i q
      rw [if_neg q] at h1
      omega
  rw [hx] at h1 h2
  apply Int32.toBitVec_inj.mp
  apply BitVec.eq_of_toNat_eq
  show (x.toBitVec &&& p.toBitVec).toNat = _
  rw [BitVec.toNat_and, hp]
  exact own_andN _ _ (by omega) (by omega)
theorem own_z_0 (x : Int32) (h1 : 1 ≤ x.toInt) (h2 : x.toInt < 2) : own_n0 x = 31 := by
  have k1 : (65536 : Int32).toInt = 65536 := rfl
  have k2 : (256 : Int32).toInt = 256 := rfl
  have k3 : (16 : Int32).toInt = 16 := rfl
  have k4 : (4 : Int32).toInt = 4 := rfl
  unfold own_n0
  rw [if_pos (by rw [Int32.lt_iff_toInt_lt]; omega)]
  unfold own_n1
  rw [if_pos (by rw [Int32.lt_iff_toInt_lt]; omega)]
  unfold own_n2
  rw [if_pos (by rw [Int32.lt_iff_toInt_lt]; omega)]
  unfold own_n3
  rw [if_pos (by rw [Int32.lt_iff_toInt_lt]; omega)]
  unfold own_n4
  have s1 : (own_sh x 1).toInt = x.toInt / 2 := own_shI x 1 1 (by decide) (by decide) (by omega)
  have e1 : own_sh x 1 = 0 := Int32.toInt_inj.mp (by rw [s1, show (0 : Int32).toInt = 0 from rfl]; omega)
  rw [e1]
  rfl
theorem own_z_1 (x : Int32) (h1 : 2 ≤ x.toInt) (h2 : x.toInt < 4) : own_n0 x = 30 := by
  have k1 : (65536 : Int32).toInt = 65536 := rfl
  have k2 : (256 : Int32).toInt = 256 := rfl
  have k3 : (16 : Int32).toInt = 16 := rfl
  have k4 : (4 : Int32).toInt = 4 := rfl
  unfold own_n0
  rw [if_pos (by rw [Int32.lt_iff_toInt_lt]; omega)]
  unfold own_n1
  rw [if_pos (by rw [Int32.lt_iff_toInt_lt]; omega)]
  unfold own_n2
  rw [if_pos (by rw [Int32.lt_iff_toInt_lt]; omega)]
  unfold own_n3
  rw [if_pos (by rw [Int32.lt_iff_toInt_lt]; omega)]
  unfold own_n4
  have s1 : (own_sh x 1).toInt = x.toInt / 2 := own_shI x 1 1 (by decide) (by decide) (by omega)
  have e1 : own_sh x 1 = 1 := Int32.toInt_inj.mp (by rw [s1, show (1 : Int32).toInt = 1 from rfl]; omega)
  rw [e1]
  rfl
theorem own_z_2 (x : Int32) (h1 : 4 ≤ x.toInt) (h2 : x.toInt < 8) : own_n0 x = 29 := by
  have k1 : (65536 : Int32).toInt = 65536 := rfl
  have k2 : (256 : Int32).toInt = 256 := rfl
  have k3 : (16 : Int32).toInt = 16 := rfl
  have k4 : (4 : Int32).toInt = 4 := rfl
  unfold own_n0
  rw [if_pos (by rw [Int32.lt_iff_toInt_lt]; omega)]
  unfold own_n1
  rw [if_pos (by rw [Int32.lt_iff_toInt_lt]; omega)]
  unfold own_n2
  rw [if_pos (by rw [Int32.lt_iff_toInt_lt]; omega)]
  unfold own_n3
  rw [if_neg (by rw [Int32.lt_iff_toInt_lt]; omega)]
  have s2 : (own_sh x 2).toInt = x.toInt / 4 := own_shI x 2 2 (by decide) (by decide) (by omega)
  unfold own_n4
  have s1 : (own_sh (own_sh x 2) 1).toInt = (own_sh x 2).toInt / 2 := own_shI (own_sh x 2) 1 1 (by decide) (by decide) (by omega)
  have e1 : own_sh (own_sh x 2) 1 = 0 := Int32.toInt_inj.mp (by rw [s1, show (0 : Int32).toInt = 0 from rfl]; omega)
  rw [e1]
  rfl
theorem own_z_3 (x : Int32) (h1 : 8 ≤ x.toInt) (h2 : x.toInt < 16) : own_n0 x = 28 := by
  have k1 : (65536 : Int32).toInt = 65536 := rfl
  have k2 : (256 : Int32).toInt = 256 := rfl
  have k3 : (16 : Int32).toInt = 16 := rfl
  have k4 : (4 : Int32).toInt = 4 := rfl
  unfold own_n0
  rw [if_pos (by rw [Int32.lt_iff_toInt_lt]; omega)]
  unfold own_n1
  rw [if_pos (by rw [Int32.lt_iff_toInt_lt]; omega)]
  unfold own_n2
  rw [if_pos (by rw [Int32.lt_iff_toInt_lt]; omega)]
  unfold own_n3
  rw [if_neg (by rw [Int32.lt_iff_toInt_lt]; omega)]
  have s2 : (own_sh x 2).toInt = x.toInt / 4 := own_shI x 2 2 (by decide) (by decide) (by omega)
  unfold own_n4
  have s1 : (own_sh (own_sh x 2) 1).toInt = (own_sh x 2).toInt / 2 := own_shI (own_sh x 2) 1 1 (by decide) (by decide) (by omega)
  have e1 : own_sh (own_sh x 2) 1 = 1 := Int32.toInt_inj.mp (by rw [s1, show (1 : Int32).toInt = 1 from rfl]; omega)
  rw [e1]
  rfl
theorem own_z_4 (x : Int32) (h1 : 16 ≤ x.toInt) (h2 : x.toInt < 32) : own_n0 x = 27 := by
  have k1 : (65536 : Int32).toInt = 65536 := rfl
  have k2 : (256 : Int32).toInt = 256 := rfl
  have k3 : (16 : Int32).toInt = 16 := rfl
  have k4 : (4 : Int32).toInt = 4 := rfl
  unfold own_n0
  rw [if_pos (by rw [Int32.lt_iff_toInt_lt]; omega)]
  unfold own_n1
  rw [if_pos (by rw [Int32.lt_iff_toInt_lt]; omega)]
  unfold own_n2
  rw [if_neg (by rw [Int32.lt_iff_toInt_lt]; omega)]
  have s4 : (own_sh x 4).toInt = x.toInt / 16 := own_shI x 4 4 (by decide) (by decide) (by omega)
  unfold own_n3
  rw [if_pos (by rw [Int32.lt_iff_toInt_lt]; omega)]
  unfold own_n4
  have s1 : (own_sh (own_sh x 4) 1).toInt = (own_sh x 4).toInt / 2 := own_shI (own_sh x 4) 1 1 (by decide) (by decide) (by omega)
  have e1 : own_sh (own_sh x 4) 1 = 0 := Int32.toInt_inj.mp (by rw [s1, show (0 : Int32).toInt = 0 from rfl]; omega)
  rw [e1]
  rfl
theorem own_z_5 (x : Int32) (h1 : 32 ≤ x.toInt) (h2 : x.toInt < 64) : own_n0 x = 26 := by
  have k1 : (65536 : Int32).toInt = 65536 := rfl
  have k2 : (256 : Int32).toInt = 256 := rfl
  have k3 : (16 : Int32).toInt = 16 := rfl
  have k4 : (4 : Int32).toInt = 4 := rfl
  unfold own_n0
  rw [if_pos (by rw [Int32.lt_iff_toInt_lt]; omega)]
  unfold own_n1
  rw [if_pos (by rw [Int32.lt_iff_toInt_lt]; omega)]
  unfold own_n2
  rw [if_neg (by rw [Int32.lt_iff_toInt_lt]; omega)]
  have s4 : (own_sh x 4).toInt = x.toInt / 16 := own_shI x 4 4 (by decide) (by decide) (by omega)
  unfold own_n3
  rw [if_pos (by rw [Int32.lt_iff_toInt_lt]; omega)]
  unfold own_n4
  have s1 : (own_sh (own_sh x 4) 1).toInt = (own_sh x 4).toInt / 2 := own_shI (own_sh x 4) 1 1 (by decide) (by decide) (by omega)
  have e1 : own_sh (own_sh x 4) 1 = 1 := Int32.toInt_inj.mp (by rw [s1, show (1 : Int32).toInt = 1 from rfl]; omega)
  rw [e1]
  rfl
theorem own_z_6 (x : Int32) (h1 : 64 ≤ x.toInt) (h2 : x.toInt < 128) : own_n0 x = 25 := by
  have k1 : (65536 : Int32).toInt = 65536 := rfl
  have k2 : (256 : Int32).toInt = 256 := rfl
  have k3 : (16 : Int32).toInt = 16 := rfl
  have k4 : (4 : Int32).toInt = 4 := rfl
  unfold own_n0
  rw [if_pos (by rw [Int32.lt_iff_toInt_lt]; omega)]
  unfold own_n1
  rw [if_pos (by rw [Int32.lt_iff_toInt_lt]; omega)]
  unfold own_n2
  rw [if_neg (by rw [Int32.lt_iff_toInt_lt]; omega)]
  have s4 : (own_sh x 4).toInt = x.toInt / 16 := own_shI x 4 4 (by decide) (by decide) (by omega)
  unfold own_n3
  rw [if_neg (by rw [Int32.lt_iff_toInt_lt]; omega)]
  have s2 : (own_sh (own_sh x 4) 2).toInt = (own_sh x 4).toInt / 4 := own_shI (own_sh x 4) 2 2 (by decide) (by decide) (by omega)
  unfold own_n4
  have s1 : (own_sh (own_sh (own_sh x 4) 2) 1).toInt = (own_sh (own_sh x 4) 2).toInt / 2 := own_shI (own_sh (own_sh x 4) 2) 1 1 (by decide) (by decide) (by omega)
  have e1 : own_sh (own_sh (own_sh x 4) 2) 1 = 0 := Int32.toInt_inj.mp (by rw [s1, show (0 : Int32).toInt = 0 from rfl]; omega)
  rw [e1]
  rfl
theorem own_z_7 (x : Int32) (h1 : 128 ≤ x.toInt) (h2 : x.toInt < 256) : own_n0 x = 24 := by
  have k1 : (65536 : Int32).toInt = 65536 := rfl
  have k2 : (256 : Int32).toInt = 256 := rfl
  have k3 : (16 : Int32).toInt = 16 := rfl
  have k4 : (4 : Int32).toInt = 4 := rfl
  unfold own_n0
  rw [if_pos (by rw [Int32.lt_iff_toInt_lt]; omega)]
  unfold own_n1
  rw [if_pos (by rw [Int32.lt_iff_toInt_lt]; omega)]
  unfold own_n2
  rw [if_neg (by rw [Int32.lt_iff_toInt_lt]; omega)]
  have s4 : (own_sh x 4).toInt = x.toInt / 16 := own_shI x 4 4 (by decide) (by decide) (by omega)
  unfold own_n3
  rw [if_neg (by rw [Int32.lt_iff_toInt_lt]; omega)]
  have s2 : (own_sh (own_sh x 4) 2).toInt = (own_sh x 4).toInt / 4 := own_shI (own_sh x 4) 2 2 (by decide) (by decide) (by omega)
  unfold own_n4
  have s1 : (own_sh (own_sh (own_sh x 4) 2) 1).toInt = (own_sh (own_sh x 4) 2).toInt / 2 := own_shI (own_sh (own_sh x 4) 2) 1 1 (by decide) (by decide) (by omega)
  have e1 : own_sh (own_sh (own_sh x 4) 2) 1 = 1 := Int32.toInt_inj.mp (by rw [s1, show (1 : Int32).toInt = 1 from rfl]; omega)
  rw [e1]
  rfl
theorem own_z_8 (x : Int32) (h1 : 256 ≤ x.toInt) (h2 : x.toInt < 512) : own_n0 x = 23 := by
  have k1 : (65536 : Int32).toInt = 65536 := rfl
  have k2 : (256 : Int32).toInt = 256 := rfl
  have k3 : (16 : Int32).toInt = 16 := rfl
  have k4 : (4 : Int32).toInt = 4 := rfl
  unfold own_n0
  rw [if_pos (by rw [Int32.lt_iff_toInt_lt]; omega)]
  unfold own_n1
  rw [if_neg (by rw [Int32.lt_iff_toInt_lt]; omega)]
  have s8 : (own_sh x 8).toInt = x.toInt / 256 := own_shI x 8 8 (by decide) (by decide) (by omega)
  unfold own_n2
  rw [if_pos (by rw [Int32.lt_iff_toInt_lt]; omega)]
  unfold own_n3
  rw [if_pos (by rw [Int32.lt_iff_toInt_lt]; omega)]
  unfold own_n4
  have s1 : (own_sh (own_sh x 8) 1).toInt = (own_sh x 8).toInt / 2 := own_shI (own_sh x 8) 1 1 (by decide) (by decide) (by omega)
  have e1 : own_sh (own_sh x 8) 1 = 0 := Int32.toInt_inj.mp (by rw [s1, show (0 : Int32).toInt = 0 from rfl]; omega)
  rw [e1]
  rfl
theorem own_z_9 (x : Int32) (h1 : 512 ≤ x.toInt) (h2 : x.toInt < 1024) : own_n0 x = 22 := by
  have k1 : (65536 : Int32).toInt = 65536 := rfl
  have k2 : (256 : Int32).toInt = 256 := rfl
  have k3 : (16 : Int32).toInt = 16 := rfl
  have k4 : (4 : Int32).toInt = 4 := rfl
  unfold own_n0
  rw [if_pos (by rw [Int32.lt_iff_toInt_lt]; omega)]
  unfold own_n1
  rw [if_neg (by rw [Int32.lt_iff_toInt_lt]; omega)]
  have s8 : (own_sh x 8).toInt = x.toInt / 256 := own_shI x 8 8 (by decide) (by decide) (by omega)
  unfold own_n2
  rw [if_pos (by rw [Int32.lt_iff_toInt_lt]; omega)]
  unfold own_n3
  rw [if_pos (by rw [Int32.lt_iff_toInt_lt]; omega)]
  unfold own_n4
  have s1 : (own_sh (own_sh x 8) 1).toInt = (own_sh x 8).toInt / 2 := own_shI (own_sh x 8) 1 1 (by decide) (by decide) (by omega)
  have e1 : own_sh (own_sh x 8) 1 = 1 := Int32.toInt_inj.mp (by rw [s1, show (1 : Int32).toInt = 1 from rfl]; omega)
  rw [e1]
  rfl
theorem own_z_10 (x : Int32) (h1 : 1024 ≤ x.toInt) (h2 : x.toInt < 2048) : own_n0 x = 21 := by
  have k1 : (65536 : Int32).toInt = 65536 := rfl
  have k2 : (256 : Int32).toInt = 256 := rfl
  have k3 : (16 : Int32).toInt = 16 := rfl
  have k4 : (4 : Int32).toInt = 4 := rfl
  unfold own_n0
  rw [if_pos (by rw [Int32.lt_iff_toInt_lt]; omega)]
  unfold own_n1
  rw [if_neg (by rw [Int32.lt_iff_toInt_lt]; omega)]
  have s8 : (own_sh x 8).toInt = x.toInt / 256 := own_shI x 8 8 (by decide) (by decide) (by omega)
  unfold own_n2
  rw [if_pos (by rw [Int32.lt_iff_toInt_lt]; omega)]
  unfold own_n3
  rw [if_neg (by rw [Int32.lt_iff_toInt_lt]; omega)]
  have s2 : (own_sh (own_sh x 8) 2).toInt = (own_sh x 8).toInt / 4 := own_shI (own_sh x 8) 2 2 (by decide) (by decide) (by omega)
  unfold own_n4
  have s1 : (own_sh (own_sh (own_sh x 8) 2) 1).toInt = (own_sh (own_sh x 8) 2).toInt / 2 := own_shI (own_sh (own_sh x 8) 2) 1 1 (by decide) (by decide) (by omega)
  have e1 : own_sh (own_sh (own_sh x 8) 2) 1 = 0 := Int32.toInt_inj.mp (by rw [s1, show (0 : Int32).toInt = 0 from rfl]; omega)
  rw [e1]
  rfl
theorem own_z_11 (x : Int32) (h1 : 2048 ≤ x.toInt) (h2 : x.toInt < 4096) : own_n0 x = 20 := by
  have k1 : (65536 : Int32).toInt = 65536 := rfl
  have k2 : (256 : Int32).toInt = 256 := rfl
  have k3 : (16 : Int32).toInt = 16 := rfl
  have k4 : (4 : Int32).toInt = 4 := rfl
  unfold own_n0
  rw [if_pos (by rw [Int32.lt_iff_toInt_lt]; omega)]
  unfold own_n1
  rw [if_neg (by rw [Int32.lt_iff_toInt_lt]; omega)]
  have s8 : (own_sh x 8).toInt = x.toInt / 256 := own_shI x 8 8 (by decide) (by decide) (by omega)
  unfold own_n2
  rw [if_pos (by rw [Int32.lt_iff_toInt_lt]; omega)]
  unfold own_n3
  rw [if_neg (by rw [Int32.lt_iff_toInt_lt]; omega)]
  have s2 : (own_sh (own_sh x 8) 2).toInt = (own_sh x 8).toInt / 4 := own_shI (own_sh x 8) 2 2 (by decide) (by decide) (by omega)
  unfold own_n4
  have s1 : (own_sh (own_sh (own_sh x 8) 2) 1).toInt = (own_sh (own_sh x 8) 2).toInt / 2 := own_shI (own_sh (own_sh x 8) 2) 1 1 (by decide) (by decide) (by omega)
  have e1 : own_sh (own_sh (own_sh x 8) 2) 1 = 1 := Int32.toInt_inj.mp (by rw [s1, show (1 : Int32).toInt = 1 from rfl]; omega)
  rw [e1]
  rfl
theorem own_z_12 (x : Int32) (h1 : 4096 ≤ x.toInt) (h2 : x.toInt < 8192) : own_n0 x = 19 := by
  have k1 : (65536 : Int32).toInt = 65536 := rfl
  have k2 : (256 : Int32).toInt = 256 := rfl
  have k3 : (16 : Int32).toInt = 16 := rfl
  have k4 : (4 : Int32).toInt = 4 := rfl
  unfold own_n0
  rw [if_pos (by rw [Int32.lt_iff_toInt_lt]; omega)]
  unfold own_n1
  rw [if_neg (by rw [Int32.lt_iff_toInt_lt]; omega)]
  have s8 : (own_sh x 8).toInt = x.toInt / 256 := own_shI x 8 8 (by decide) (by decide) (by omega)
  unfold own_n2
  rw [if_neg (by rw [Int32.lt_iff_toInt_lt]; omega)]
  have s4 : (own_sh (own_sh x 8) 4).toInt = (own_sh x 8).toInt / 16 := own_shI (own_sh x 8) 4 4 (by decide) (by decide) (by omega)
  unfold own_n3
  rw [if_pos (by rw [Int32.lt_iff_toInt_lt]; omega)]
  unfold own_n4
  have s1 : (own_sh (own_sh (own_sh x 8) 4) 1).toInt = (own_sh (own_sh x 8) 4).toInt / 2 := own_shI (own_sh (own_sh x 8) 4) 1 1 (by decide) (by decide) (by omega)
  have e1 : own_sh (own_sh (own_sh x 8) 4) 1 = 0 := Int32.toInt_inj.mp (by rw [s1, show (0 : Int32).toInt = 0 from rfl]; omega)
  rw [e1]
  rfl
theorem own_z_13 (x : Int32) (h1 : 8192 ≤ x.toInt) (h2 : x.toInt < 16384) : own_n0 x = 18 := by
  have k1 : (65536 : Int32).toInt = 65536 := rfl
  have k2 : (256 : Int32).toInt = 256 := rfl
  have k3 : (16 : Int32).toInt = 16 := rfl
  have k4 : (4 : Int32).toInt = 4 := rfl
  unfold own_n0
  rw [if_pos (by rw [Int32.lt_iff_toInt_lt]; omega)]
  unfold own_n1
  rw [if_neg (by rw [Int32.lt_iff_toInt_lt]; omega)]
  have s8 : (own_sh x 8).toInt = x.toInt / 256 := own_shI x 8 8 (by decide) (by decide) (by omega)
  unfold own_n2
  rw [if_neg (by rw [Int32.lt_iff_toInt_lt]; omega)]
  have s4 : (own_sh (own_sh x 8) 4).toInt = (own_sh x 8).toInt / 16 := own_shI (own_sh x 8) 4 4 (by decide) (by decide) (by omega)
  unfold own_n3
  rw [if_pos (by rw [Int32.lt_iff_toInt_lt]; omega)]
  unfold own_n4
  have s1 : (own_sh (own_sh (own_sh x 8) 4) 1).toInt = (own_sh (own_sh x 8) 4).toInt / 2 := own_shI (own_sh (own_sh x 8) 4) 1 1 (by decide) (by decide) (by omega)
  have e1 : own_sh (own_sh (own_sh x 8) 4) 1 = 1 := Int32.toInt_inj.mp (by rw [s1, show (1 : Int32).toInt = 1 from rfl]; omega)
  rw [e1]
  rfl
theorem own_z_14 (x : Int32) (h1 : 16384 ≤ x.toInt) (h2 : x.toInt < 32768) : own_n0 x = 17 := by
  have k1 : (65536 : Int32).toInt = 65536 := rfl
  have k2 : (256 : Int32).toInt = 256 := rfl
  have k3 : (16 : Int32).toInt = 16 := rfl
  have k4 : (4 : Int32).toInt = 4 := rfl
  unfold own_n0
  rw [if_pos (by rw [Int32.lt_iff_toInt_lt]; omega)]
  unfold own_n1
  rw [if_neg (by rw [Int32.lt_iff_toInt_lt]; omega)]
  have s8 : (own_sh x 8).toInt = x.toInt / 256 := own_shI x 8 8 (by decide) (by decide) (by omega)
  unfold own_n2
  rw [if_neg (by rw [Int32.lt_iff_toInt_lt]; omega)]
  have s4 : (own_sh (own_sh x 8) 4).toInt = (own_sh x 8).toInt / 16 := own_shI (own_sh x 8) 4 4 (by decide) (by decide) (by omega)
  unfold own_n3
  rw [if_neg (by rw [Int32.lt_iff_toInt_lt]; omega)]
  have s2 : (own_sh (own_sh (own_sh x 8) 4) 2).toInt = (own_sh (own_sh x 8) 4).toInt / 4 := own_shI (own_sh (own_sh x 8) 4) 2 2 (by decide) (by decide) (by omega)
  unfold own_n4
  have s1 : (own_sh (own_sh (own_sh (own_sh x 8) 4) 2) 1).toInt = (own_sh (own_sh (own_sh x 8) 4) 2).toInt / 2 := own_shI (own_sh (own_sh (own_sh x 8) 4) 2) 1 1 (by decide) (by decide) (by omega)
  have e1 : own_sh (own_sh (own_sh (own_sh x 8) 4) 2) 1 = 0 := Int32.toInt_inj.mp (by rw [s1, show (0 : Int32).toInt = 0 from rfl]; omega)
  rw [e1]
  rfl
theorem own_z_15 (x : Int32) (h1 : 32768 ≤ x.toInt) (h2 : x.toInt < 65536) : own_n0 x = 16 := by
  have k1 : (65536 : Int32).toInt = 65536 := rfl
  have k2 : (256 : Int32).toInt = 256 := rfl
  have k3 : (16 : Int32).toInt = 16 := rfl
  have k4 : (4 : Int32).toInt = 4 := rfl
  unfold own_n0
  rw [if_pos (by rw [Int32.lt_iff_toInt_lt]; omega)]
  unfold own_n1
  rw [if_neg (by rw [Int32.lt_iff_toInt_lt]; omega)]
  have s8 : (own_sh x 8).toInt = x.toInt / 256 := own_shI x 8 8 (by decide) (by decide) (by omega)
  unfold own_n2
  rw [if_neg (by rw [Int32.lt_iff_toInt_lt]; omega)]
  have s4 : (own_sh (own_sh x 8) 4).toInt = (own_sh x 8).toInt / 16 := own_shI (own_sh x 8) 4 4 (by decide) (by decide) (by omega)
  unfold own_n3
  rw [if_neg (by rw [Int32.lt_iff_toInt_lt]; omega)]
  have s2 : (own_sh (own_sh (own_sh x 8) 4) 2).toInt = (own_sh (own_sh x 8) 4).toInt / 4 := own_shI (own_sh (own_sh x 8) 4) 2 2 (by decide) (by decide) (by omega)
  unfold own_n4
  have s1 : (own_sh (own_sh (own_sh (own_sh x 8) 4) 2) 1).toInt = (own_sh (own_sh (own_sh x 8) 4) 2).toInt / 2 := own_shI (own_sh (own_sh (own_sh x 8) 4) 2) 1 1 (by decide) (by decide) (by omega)
  have e1 : own_sh (own_sh (own_sh (own_sh x 8) 4) 2) 1 = 1 := Int32.toInt_inj.mp (by rw [s1, show (1 : Int32).toInt = 1 from rfl]; omega)
  rw [e1]
  rfl
theorem own_z_16 (x : Int32) (h1 : 65536 ≤ x.toInt) (h2 : x.toInt < 131072) : own_n0 x = 15 := by
  have k1 : (65536 : Int32).toInt = 65536 := rfl
  have k2 : (256 : Int32).toInt = 256 := rfl
  have k3 : (16 : Int32).toInt = 16 := rfl
  have k4 : (4 : Int32).toInt = 4 := rfl
  unfold own_n0
  rw [if_neg (by rw [Int32.lt_iff_toInt_lt]; omega)]
  have s16 : (own_sh x 16).toInt = x.toInt / 65536 := own_shI x 16 16 (by decide) (by decide) (by omega)
  unfold own_n1
  rw [if_pos (by rw [Int32.lt_iff_toInt_lt]; omega)]
  unfold own_n2
  rw [if_pos (by rw [Int32.lt_iff_toInt_lt]; omega)]
  unfold own_n3
  rw [if_pos (by rw [Int32.lt_iff_toInt_lt]; omega)]
  unfold own_n4
  have s1 : (own_sh (own_sh x 16) 1).toInt = (own_sh x 16).toInt / 2 := own_shI (own_sh x 16) 1 1 (by decide) (by decide) (by omega)
  have e1 : own_sh (own_sh x 16) 1 = 0 := Int32.toInt_inj.mp (by rw [s1, show (0 : Int32).toInt = 0 from rfl]; omega)
  rw [e1]
  rfl
theorem own_z_17 (x : Int32) (h1 : 131072 ≤ x.toInt) (h2 : x.toInt < 262144) : own_n0 x = 14 := by
  have k1 : (65536 : Int32).toInt = 65536 := rfl
  have k2 : (256 : Int32).toInt = 256 := rfl
  have k3 : (16 : Int32).toInt = 16 := rfl
  have k4 : (4 : Int32).toInt = 4 := rfl
  unfold own_n0
  rw [if_neg (by rw [Int32.lt_iff_toInt_lt]; omega)]
  have s16 : (own_sh x 16).toInt = x.toInt / 65536 := own_shI x 16 16 (by decide) (by decide) (by omega)
  unfold own_n1
  rw [if_pos (by rw [Int32.lt_iff_toInt_lt]; omega)]
  unfold own_n2
  rw [if_pos (by rw [Int32.lt_iff_toInt_lt]; omega)]
  unfold own_n3
  rw [if_pos (by rw [Int32.lt_iff_toInt_lt]; omega)]
  unfold own_n4
  have s1 : (own_sh (own_sh x 16) 1).toInt = (own_sh x 16).toInt / 2 := own_shI (own_sh x 16) 1 1 (by decide) (by decide) (by omega)
  have e1 : own_sh (own_sh x 16) 1 = 1 := Int32.toInt_inj.mp (by rw [s1, show (1 : Int32).toInt = 1 from rfl]; omega)
  rw [e1]
  rfl
theorem own_z_18 (x : Int32) (h1 : 262144 ≤ x.toInt) (h2 : x.toInt < 524288) : own_n0 x = 13 := by
  have k1 : (65536 : Int32).toInt = 65536 := rfl
  have k2 : (256 : Int32).toInt = 256 := rfl
  have k3 : (16 : Int32).toInt = 16 := rfl
  have k4 : (4 : Int32).toInt = 4 := rfl
  unfold own_n0
  rw [if_neg (by rw [Int32.lt_iff_toInt_lt]; omega)]
  have s16 : (own_sh x 16).toInt = x.toInt / 65536 := own_shI x 16 16 (by decide) (by decide) (by omega)
  unfold own_n1
  rw [if_pos (by rw [Int32.lt_iff_toInt_lt]; omega)]
  unfold own_n2
  rw [if_pos (by rw [Int32.lt_iff_toInt_lt]; omega)]
  unfold own_n3
  rw [if_neg (by rw [Int32.lt_iff_toInt_lt]; omega)]
  have s2 : (own_sh (own_sh x 16) 2).toInt = (own_sh x 16).toInt / 4 := own_shI (own_sh x 16) 2 2 (by decide) (by decide) (by omega)
  unfold own_n4
  have s1 : (own_sh (own_sh (own_sh x 16) 2) 1).toInt = (own_sh (own_sh x 16) 2).toInt / 2 := own_shI (own_sh (own_sh x 16) 2) 1 1 (by decide) (by decide) (by omega)
  have e1 : own_sh (own_sh (own_sh x 16) 2) 1 = 0 := Int32.toInt_inj.mp (by rw [s1, show (0 : Int32).toInt = 0 from rfl]; omega)
  rw [e1]
  rfl
theorem own_z_19 (x : Int32) (h1 : 524288 ≤ x.toInt) (h2 : x.toInt < 1048576) : own_n0 x = 12 := by
  have k1 : (65536 : Int32).toInt = 65536 := rfl
  have k2 : (256 : Int32).toInt = 256 := rfl
  have k3 : (16 : Int32).toInt = 16 := rfl
  have k4 : (4 : Int32).toInt = 4 := rfl
  unfold own_n0
  rw [if_neg (by rw [Int32.lt_iff_toInt_lt]; omega)]
  have s16 : (own_sh x 16).toInt = x.toInt / 65536 := own_shI x 16 16 (by decide) (by decide) (by omega)
  unfold own_n1
  rw [if_pos (by rw [Int32.lt_iff_toInt_lt]; omega)]
  unfold own_n2
  rw [if_pos (by rw [Int32.lt_iff_toInt_lt]; omega)]
  unfold own_n3
  rw [if_neg (by rw [Int32.lt_iff_toInt_lt]; omega)]
  have s2 : (own_sh (own_sh x 16) 2).toInt = (own_sh x 16).toInt / 4 := own_shI (own_sh x 16) 2 2 (by decide) (by decide) (by omega)
  unfold own_n4
  have s1 : (own_sh (own_sh (own_sh x 16) 2) 1).toInt = (own_sh (own_sh x 16) 2).toInt / 2 := own_shI (own_sh (own_sh x 16) 2) 1 1 (by decide) (by decide) (by omega)
  have e1 : own_sh (own_sh (own_sh x 16) 2) 1 = 1 := Int32.toInt_inj.mp (by rw [s1, show (1 : Int32).toInt = 1 from rfl]; omega)
  rw [e1]
  rfl
theorem own_z_20 (x : Int32) (h1 : 1048576 ≤ x.toInt) (h2 : x.toInt < 2097152) : own_n0 x = 11 := by
  have k1 : (65536 : Int32).toInt = 65536 := rfl
  have k2 : (256 : Int32).toInt = 256 := rfl
  have k3 : (16 : Int32).toInt = 16 := rfl
  have k4 : (4 : Int32).toInt = 4 := rfl
  unfold own_n0
  rw [if_neg (by rw [Int32.lt_iff_toInt_lt]; omega)]
  have s16 : (own_sh x 16).toInt = x.toInt / 65536 := own_shI x 16 16 (by decide) (by decide) (by omega)
  unfold own_n1
  rw [if_pos (by rw [Int32.lt_iff_toInt_lt]; omega)]
  unfold own_n2
  rw [if_neg (by rw [Int32.lt_iff_toInt_lt]; omega)]
  have s4 : (own_sh (own_sh x 16) 4).toInt = (own_sh x 16).toInt / 16 := own_shI (own_sh x 16) 4 4 (by decide) (by decide) (by omega)
  unfold own_n3
  rw [if_pos (by rw [Int32.lt_iff_toInt_lt]; omega)]
  unfold own_n4
  have s1 : (own_sh (own_sh (own_sh x 16) 4) 1).toInt = (own_sh (own_sh x 16) 4).toInt / 2 := own_shI (own_sh (own_sh x 16) 4) 1 1 (by decide) (by decide) (by omega)
  have e1 : own_sh (own_sh (own_sh x 16) 4) 1 = 0 := Int32.toInt_inj.mp (by rw [s1, show (0 : Int32).toInt = 0 from rfl]; omega)
  rw [e1]
  rfl
theorem own_z_21 (x : Int32) (h1 : 2097152 ≤ x.toInt) (h2 : x.toInt < 4194304) : own_n0 x = 10 := by
  have k1 : (65536 : Int32).toInt = 65536 := rfl
  have k2 : (256 : Int32).toInt = 256 := rfl
  have k3 : (16 : Int32).toInt = 16 := rfl
  have k4 : (4 : Int32).toInt = 4 := rfl
  unfold own_n0
  rw [if_neg (by rw [Int32.lt_iff_toInt_lt]; omega)]
  have s16 : (own_sh x 16).toInt = x.toInt / 65536 := own_shI x 16 16 (by decide) (by decide) (by omega)
  unfold own_n1
  rw [if_pos (by rw [Int32.lt_iff_toInt_lt]; omega)]
  unfold own_n2
  rw [if_neg (by rw [Int32.lt_iff_toInt_lt]; omega)]
  have s4 : (own_sh (own_sh x 16) 4).toInt = (own_sh x 16).toInt / 16 := own_shI (own_sh x 16) 4 4 (by decide) (by decide) (by omega)
  unfold own_n3
  rw [if_pos (by rw [Int32.lt_iff_toInt_lt]; omega)]
  unfold own_n4
  have s1 : (own_sh (own_sh (own_sh x 16) 4) 1).toInt = (own_sh (own_sh x 16) 4).toInt / 2 := own_shI (own_sh (own_sh x 16) 4) 1 1 (by decide) (by decide) (by omega)
  have e1 : own_sh (own_sh (own_sh x 16) 4) 1 = 1 := Int32.toInt_inj.mp (by rw [s1, show (1 : Int32).toInt = 1 from rfl]; omega)
  rw [e1]
  rfl
theorem own_z_22 (x : Int32) (h1 : 4194304 ≤ x.toInt) (h2 : x.toInt < 8388608) : own_n0 x = 9 := by
  have k1 : (65536 : Int32).toInt = 65536 := rfl
  have k2 : (256 : Int32).toInt = 256 := rfl
  have k3 : (16 : Int32).toInt = 16 := rfl
  have k4 : (4 : Int32).toInt = 4 := rfl
  unfold own_n0
  rw [if_neg (by rw [Int32.lt_iff_toInt_lt]; omega)]
  have s16 : (own_sh x 16).toInt = x.toInt / 65536 := own_shI x 16 16 (by decide) (by decide) (by omega)
  unfold own_n1
  rw [if_pos (by rw [Int32.lt_iff_toInt_lt]; omega)]
  unfold own_n2
  rw [if_neg (by rw [Int32.lt_iff_toInt_lt]; omega)]
  have s4 : (own_sh (own_sh x 16) 4).toInt = (own_sh x 16).toInt / 16 := own_shI (own_sh x 16) 4 4 (by decide) (by decide) (by omega)
  unfold own_n3
  rw [if_neg (by rw [Int32.lt_iff_toInt_lt]; omega)]
  have s2 : (own_sh (own_sh (own_sh x 16) 4) 2).toInt = (own_sh (own_sh x 16) 4).toInt / 4 := own_shI (own_sh (own_sh x 16) 4) 2 2 (by decide) (by decide) (by omega)
  unfold own_n4
  have s1 : (own_sh (own_sh (own_sh (own_sh x 16) 4) 2) 1).toInt = (own_sh (own_sh (own_sh x 16) 4) 2).toInt / 2 := own_shI (own_sh (own_sh (own_sh x 16) 4) 2) 1 1 (by decide) (by decide) (by omega)
  have e1 : own_sh (own_sh (own_sh (own_sh x 16) 4) 2) 1 = 0 := Int32.toInt_inj.mp (by rw [s1, show (0 : Int32).toInt = 0 from rfl]; omega)
  rw [e1]
  rfl
theorem own_z_23 (x : Int32) (h1 : 8388608 ≤ x.toInt) (h2 : x.toInt < 16777216) : own_n0 x = 8 := by
  have k1 : (65536 : Int32).toInt = 65536 := rfl
  have k2 : (256 : Int32).toInt = 256 := rfl
  have k3 : (16 : Int32).toInt = 16 := rfl
  have k4 : (4 : Int32).toInt = 4 := rfl
  unfold own_n0
  rw [if_neg (by rw [Int32.lt_iff_toInt_lt]; omega)]
  have s16 : (own_sh x 16).toInt = x.toInt / 65536 := own_shI x 16 16 (by decide) (by decide) (by omega)
  unfold own_n1
  rw [if_pos (by rw [Int32.lt_iff_toInt_lt]; omega)]
  unfold own_n2
  rw [if_neg (by rw [Int32.lt_iff_toInt_lt]; omega)]
  have s4 : (own_sh (own_sh x 16) 4).toInt = (own_sh x 16).toInt / 16 := own_shI (own_sh x 16) 4 4 (by decide) (by decide) (by omega)
  unfold own_n3
  rw [if_neg (by rw [Int32.lt_iff_toInt_lt]; omega)]
  have s2 : (own_sh (own_sh (own_sh x 16) 4) 2).toInt = (own_sh (own_sh x 16) 4).toInt / 4 := own_shI (own_sh (own_sh x 16) 4) 2 2 (by decide) (by decide) (by omega)
  unfold own_n4
  have s1 : (own_sh (own_sh (own_sh (own_sh x 16) 4) 2) 1).toInt = (own_sh (own_sh (own_sh x 16) 4) 2).toInt / 2 := own_shI (own_sh (own_sh (own_sh x 16) 4) 2) 1 1 (by decide) (by decide) (by omega)
  have e1 : own_sh (own_sh (own_sh (own_sh x 16) 4) 2) 1 = 1 := Int32.toInt_inj.mp (by rw [s1, show (1 : Int32).toInt = 1 from rfl]; omega)
  rw [e1]
  rfl
theorem own_z_24 (x : Int32) (h1 : 16777216 ≤ x.toInt) (h2 : x.toInt < 33554432) : own_n0 x = 7 := by
  have k1 : (65536 : Int32).toInt = 65536 := rfl
  have k2 : (256 : Int32).toInt = 256 := rfl
  have k3 : (16 : Int32).toInt = 16 := rfl
  have k4 : (4 : Int32).toInt = 4 := rfl
  unfold own_n0
  rw [if_neg (by rw [Int32.lt_iff_toInt_lt]; omega)]
  have s16 : (own_sh x 16).toInt = x.toInt / 65536 := own_shI x 16 16 (by decide) (by decide) (by omega)
  unfold own_n1
  rw [if_neg (by rw [Int32.lt_iff_toInt_lt]; omega)]
  have s8 : (own_sh (own_sh x 16) 8).toInt = (own_sh x 16).toInt / 256 := own_shI (own_sh x 16) 8 8 (by decide) (by decide) (by omega)
  unfold own_n2
  rw [if_pos (by rw [Int32.lt_iff_toInt_lt]; omega)]
  unfold own_n3
  rw [if_pos (by rw [Int32.lt_iff_toInt_lt]; omega)]
  unfold own_n4
  have s1 : (own_sh (own_sh (own_sh x 16) 8) 1).toInt = (own_sh (own_sh x 16) 8).toInt / 2 := own_shI (own_sh (own_sh x 16) 8) 1 1 (by decide) (by decide) (by omega)
  have e1 : own_sh (own_sh (own_sh x 16) 8) 1 = 0 := Int32.toInt_inj.mp (by rw [s1, show (0 : Int32).toInt = 0 from rfl]; omega)
  rw [e1]
  rfl
theorem own_z_25 (x : Int32) (h1 : 33554432 ≤ x.toInt) (h2 : x.toInt < 67108864) : own_n0 x = 6 := by
  have k1 : (65536 : Int32).toInt = 65536 := rfl
  have k2 : (256 : Int32).toInt = 256 := rfl
  have k3 : (16 : Int32).toInt = 16 := rfl
  have k4 : (4 : Int32).toInt = 4 := rfl
  unfold own_n0
  rw [if_neg (by rw [Int32.lt_iff_toInt_lt]; omega)]
  have s16 : (own_sh x 16).toInt = x.toInt / 65536 := own_shI x 16 16 (by decide) (by decide) (by omega)
  unfold own_n1
  rw [if_neg (by rw [Int32.lt_iff_toInt_lt]; omega)]
  have s8 : (own_sh (own_sh x 16) 8).toInt = (own_sh x 16).toInt / 256 := own_shI (own_sh x 16) 8 8 (by decide) (by decide) (by omega)
  unfold own_n2
  rw [if_pos (by rw [Int32.lt_iff_toInt_lt]; omega)]
  unfold own_n3
  rw [if_pos (by rw [Int32.lt_iff_toInt_lt]; omega)]
  unfold own_n4
  have s1 : (own_sh (own_sh (own_sh x 16) 8) 1).toInt = (own_sh (own_sh x 16) 8).toInt / 2 := own_shI (own_sh (own_sh x 16) 8) 1 1 (by decide) (by decide) (by omega)
  have e1 : own_sh (own_sh (own_sh x 16) 8) 1 = 1 := Int32.toInt_inj.mp (by rw [s1, show (1 : Int32).toInt = 1 from rfl]; omega)
  rw [e1]
  rfl
theorem own_z_26 (x : Int32) (h1 : 67108864 ≤ x.toInt) (h2 : x.toInt < 134217728) : own_n0 x = 5 := by
  have k1 : (65536 : Int32).toInt = 65536 := rfl
  have k2 : (256 : Int32).toInt = 256 := rfl
  have k3 : (16 : Int32).toInt = 16 := rfl
  have k4 : (4 : Int32).toInt = 4 := rfl
  unfold own_n0
  rw [if_neg (by rw [Int32.lt_iff_toInt_lt]; omega)]
  have s16 : (own_sh x 16).toInt = x.toInt / 65536 := own_shI x 16 16 (by decide) (by decide) (by omega)
  unfold own_n1
  rw [if_neg (by rw [Int32.lt_iff_toInt_lt]; omega)]
  have s8 : (own_sh (own_sh x 16) 8).toInt = (own_sh x 16).toInt / 256 := own_shI (own_sh x 16) 8 8 (by decide) (by decide) (by omega)
  unfold own_n2
  rw [if_pos (by rw [Int32.lt_iff_toInt_lt]; omega)]
  unfold own_n3
  rw [if_neg (by rw [Int32.lt_iff_toInt_lt]; omega)]
  have s2 : (own_sh (own_sh (own_sh x 16) 8) 2).toInt = (own_sh (own_sh x 16) 8).toInt / 4 := own_shI (own_sh (own_sh x 16) 8) 2 2 (by decide) (by decide) (by omega)
  unfold own_n4
  have s1 : (own_sh (own_sh (own_sh (own_sh x 16) 8) 2) 1).toInt = (own_sh (own_sh (own_sh x 16) 8) 2).toInt / 2 := own_shI (own_sh (own_sh (own_sh x 16) 8) 2) 1 1 (by decide) (by decide) (by omega)
  have e1 : own_sh (own_sh (own_sh (own_sh x 16) 8) 2) 1 = 0 := Int32.toInt_inj.mp (by rw [s1, show (0 : Int32).toInt = 0 from rfl]; omega)
  rw [e1]
  rfl
theorem own_z_27 (x : Int32) (h1 : 134217728 ≤ x.toInt) (h2 : x.toInt < 268435456) : own_n0 x = 4 := by
  have k1 : (65536 : Int32).toInt = 65536 := rfl
  have k2 : (256 : Int32).toInt = 256 := rfl
  have k3 : (16 : Int32).toInt = 16 := rfl
  have k4 : (4 : Int32).toInt = 4 := rfl
  unfold own_n0
  rw [if_neg (by rw [Int32.lt_iff_toInt_lt]; omega)]
  have s16 : (own_sh x 16).toInt = x.toInt / 65536 := own_shI x 16 16 (by decide) (by decide) (by omega)
  unfold own_n1
  rw [if_neg (by rw [Int32.lt_iff_toInt_lt]; omega)]
  have s8 : (own_sh (own_sh x 16) 8).toInt = (own_sh x 16).toInt / 256 := own_shI (own_sh x 16) 8 8 (by decide) (by decide) (by omega)
  unfold own_n2
  rw [if_pos (by rw [Int32.lt_iff_toInt_lt]; omega)]
  unfold own_n3
  rw [if_neg (by rw [Int32.lt_iff_toInt_lt]; omega)]
  have s2 : (own_sh (own_sh (own_sh x 16) 8) 2).toInt = (own_sh (own_sh x 16) 8).toInt / 4 := own_shI (own_sh (own_sh x 16) 8) 2 2 (by decide) (by decide) (by omega)
  unfold own_n4
  have s1 : (own_sh (own_sh (own_sh (own_sh x 16) 8) 2) 1).toInt = (own_sh (own_sh (own_sh x 16) 8) 2).toInt / 2 := own_shI (own_sh (own_sh (own_sh x 16) 8) 2) 1 1 (by decide) (by decide) (by omega)
  have e1 : own_sh (own_sh (own_sh (own_sh x 16) 8) 2) 1 = 1 := Int32.toInt_inj.mp (by rw [s1, show (1 : Int32).toInt = 1 from rfl]; omega)
  rw [e1]
  rfl
theorem own_z_28 (x : Int32) (h1 : 268435456 ≤ x.toInt) (h2 : x.toInt < 536870912) : own_n0 x = 3 := by
  have k1 : (65536 : Int32).toInt = 65536 := rfl
  have k2 : (256 : Int32).toInt = 256 := rfl
  have k3 : (16 : Int32).toInt = 16 := rfl
  have k4 : (4 : Int32).toInt = 4 := rfl
  unfold own_n0
  rw [if_neg (by rw [Int32.lt_iff_toInt_lt]; omega)]
  have s16 : (own_sh x 16).toInt = x.toInt / 65536 := own_shI x 16 16 (by decide) (by decide) (by omega)
  unfold own_n1
  rw [if_neg (by rw [Int32.lt_iff_toInt_lt]; omega)]
  have s8 : (own_sh (own_sh x 16) 8).toInt = (own_sh x 16).toInt / 256 := own_shI (own_sh x 16) 8 8 (by decide) (by decide) (by omega)
  unfold own_n2
  rw [if_neg (by rw [Int32.lt_iff_toInt_lt]; omega)]
  have s4 : (own_sh (own_sh (own_sh x 16) 8) 4).toInt = (own_sh (own_sh x 16) 8).toInt / 16 := own_shI (own_sh (own_sh x 16) 8) 4 4 (by decide) (by decide) (by omega)
  unfold own_n3
  rw [if_pos (by rw [Int32.lt_iff_toInt_lt]; omega)]
  unfold own_n4
  have s1 : (own_sh (own_sh (own_sh (own_sh x 16) 8) 4) 1).toInt = (own_sh (own_sh (own_sh x 16) 8) 4).toInt / 2 := own_shI (own_sh (own_sh (own_sh x 16) 8) 4) 1 1 (by decide) (by decide) (by omega)
  have e1 : own_sh (own_sh (own_sh (own_sh x 16) 8) 4) 1 = 0 := Int32.toInt_inj.mp (by rw [s1, show (0 : Int32).toInt = 0 from rfl]; omega)
  rw [e1]
  rfl
theorem own_z_29 (x : Int32) (h1 : 536870912 ≤ x.toInt) (h2 : x.toInt < 1073741824) : own_n0 x = 2 := by
  have k1 : (65536 : Int32).toInt = 65536 := rfl
  have k2 : (256 : Int32).toInt = 256 := rfl
  have k3 : (16 : Int32).toInt = 16 := rfl
  have k4 : (4 : Int32).toInt = 4 := rfl
  unfold own_n0
  rw [if_neg (by rw [Int32.lt_iff_toInt_lt]; omega)]
  have s16 : (own_sh x 16).toInt = x.toInt / 65536 := own_shI x 16 16 (by decide) (by decide) (by omega)
  unfold own_n1
  rw [if_neg (by rw [Int32.lt_iff_toInt_lt]; omega)]
  have s8 : (own_sh (own_sh x 16) 8).toInt = (own_sh x 16).toInt / 256 := own_shI (own_sh x 16) 8 8 (by decide) (by decide) (by omega)
  unfold own_n2
  rw [if_neg (by rw [Int32.lt_iff_toInt_lt]; omega)]
  have s4 : (own_sh (own_sh (own_sh x 16) 8) 4).toInt = (own_sh (own_sh x 16) 8).toInt / 16 := own_shI (own_sh (own_sh x 16) 8) 4 4 (by decide) (by decide) (by omega)
  unfold own_n3
  rw [if_pos (by rw [Int32.lt_iff_toInt_lt]; omega)]
  unfold own_n4
  have s1 : (own_sh (own_sh (own_sh (own_sh x 16) 8) 4) 1).toInt = (own_sh (own_sh (own_sh x 16) 8) 4).toInt / 2 := own_shI (own_sh (own_sh (own_sh x 16) 8) 4) 1 1 (by decide) (by decide) (by omega)
  have e1 : own_sh (own_sh (own_sh (own_sh x 16) 8) 4) 1 = 1 := Int32.toInt_inj.mp (by rw [s1, show (1 : Int32).toInt = 1 from rfl]; omega)
  rw [e1]
  rfl
theorem own_h_0 (x : Int32) (h1 : 1 ≤ x.toInt) (h2 : x.toInt < 2) : own_hob x = 1 := by
  unfold own_hob
  rw [own_z_0 x h1 h2, show own_sh (-2147483648) 31 = 1 from by decide]
  exact own_andp x 1 0 (by decide) h1 h2
theorem own_h_1 (x : Int32) (h1 : 2 ≤ x.toInt) (h2 : x.toInt < 4) : own_hob x = 2 := by
  unfold own_hob
  rw [own_z_1 x h1 h2, show own_sh (-2147483648) 30 = 2 from by decide]
  exact own_andp x 2 1 (by decide) h1 h2
theorem own_h_2 (x : Int32) (h1 : 4 ≤ x.toInt) (h2 : x.toInt < 8) : own_hob x = 4 := by
  unfold own_hob
  rw [own_z_2 x h1 h2, show own_sh (-2147483648) 29 = 4 from by decide]
  exact own_andp x 4 2 (by decide) h1 h2
theorem own_h_3 (x : Int32) (h1 : 8 ≤ x.toInt) (h2 : x.toInt < 16) : own_hob x = 8 := by
  unfold own_hob
  rw [own_z_3 x h1 h2, show own_sh (-2147483648) 28 = 8 from by decide]
  exact own_andp x 8 3 (by decide) h1 h2
theorem own_h_4 (x : Int32) (h1 : 16 ≤ x.toInt) (h2 : x.toInt < 32) : own_hob x = 16 := by
  unfold own_hob
  rw [own_z_4 x h1 h2, show own_sh (-2147483648) 27 = 16 from by decide]
  exact own_andp x 16 4 (by decide) h1 h2
theorem own_h_5 (x : Int32) (h1 : 32 ≤ x.toInt) (h2 : x.toInt < 64) : own_hob x = 32 := by
  unfold own_hob
  rw [own_z_5 x h1 h2, show own_sh (-2147483648) 26 = 32 from by decide]
  exact own_andp x 32 5 (by decide) h1 h2
theorem own_h_6 (x : Int32) (h1 : 64 ≤ x.toInt) (h2 : x.toInt < 128) : own_hob x = 64 := by
  unfold own_hob
  rw [own_z_6 x h1 h2, show own_sh (-2147483648) 25 = 64 from by decide]
  exact own_andp x 64 6 (by decide) h1 h2
theorem own_h_7 (x : Int32) (h1 : 128 ≤ x.toInt) (h2 : x.toInt < 256) : own_hob x = 128 := by
  unfold own_hob
  rw [own_z_7 x h1 h2, show own_sh (-2147483648) 24 = 128 from by decide]
  exact own_andp x 128 7 (by decide) h1 h2
theorem own_h_8 (x : Int32) (h1 : 256 ≤ x.toInt) (h2 : x.toInt < 512) : own_hob x = 256 := by
  unfold own_hob
  rw [own_z_8 x h1 h2, show own_sh (-2147483648) 23 = 256 from by decide]
  exact own_andp x 256 8 (by decide) h1 h2
theorem own_h_9 (x : Int32) (h1 : 512 ≤ x.toInt) (h2 : x.toInt < 1024) : own_hob x = 512 := by
  unfold own_hob
  rw [own_z_9 x h1 h2, show own_sh (-2147483648) 22 = 512 from by decide]
  exact own_andp x 512 9 (by decide) h1 h2
theorem own_h_10 (x : Int32) (h1 : 1024 ≤ x.toInt) (h2 : x.toInt < 2048) : own_hob x = 1024 := by
  unfold own_hob
  rw [own_z_10 x h1 h2, show own_sh (-2147483648) 21 = 1024 from by decide]
  exact own_andp x 1024 10 (by decide) h1 h2
theorem own_h_11 (x : Int32) (h1 : 2048 ≤ x.toInt) (h2 : x.toInt < 4096) : own_hob x = 2048 := by
  unfold own_hob
  rw [own_z_11 x h1 h2, show own_sh (-2147483648) 20 = 2048 from by decide]
  exact own_andp x 2048 11 (by decide) h1 h2
theorem own_h_12 (x : Int32) (h1 : 4096 ≤ x.toInt) (h2 : x.toInt < 8192) : own_hob x = 4096 := by
  unfold own_hob
  rw [own_z_12 x h1 h2, show own_sh (-2147483648) 19 = 4096 from by decide]
  exact own_andp x 4096 12 (by decide) h1 h2
theorem own_h_13 (x : Int32) (h1 : 8192 ≤ x.toInt) (h2 : x.toInt < 16384) : own_hob x = 8192 := by
  unfold own_hob
  rw [own_z_13 x h1 h2, show own_sh (-2147483648) 18 = 8192 from by decide]
  exact own_andp x 8192 13 (by decide) h1 h2
theorem own_h_14 (x : Int32) (h1 : 16384 ≤ x.toInt) (h2 : x.toInt < 32768) : own_hob x = 16384 := by
  unfold own_hob
  rw [own_z_14 x h1 h2, show own_sh (-2147483648) 17 = 16384 from by decide]
  exact own_andp x 16384 14 (by decide) h1 h2
theorem own_h_15 (x : Int32) (h1 : 32768 ≤ x.toInt) (h2 : x.toInt < 65536) : own_hob x = 32768 := by
  unfold own_hob
  rw [own_z_15 x h1 h2, show own_sh (-2147483648) 16 = 32768 from by decide]
  exact own_andp x 32768 15 (by decide) h1 h2
theorem own_h_16 (x : Int32) (h1 : 65536 ≤ x.toInt) (h2 : x.toInt < 131072) : own_hob x = 65536 := by
  unfold own_hob
  rw [own_z_16 x h1 h2, show own_sh (-2147483648) 15 = 65536 from by decide]
  exact own_andp x 65536 16 (by decide) h1 h2
theorem own_h_17 (x : Int32) (h1 : 131072 ≤ x.toInt) (h2 : x.toInt < 262144) : own_hob x = 131072 := by
  unfold own_hob
  rw [own_z_17 x h1 h2, show own_sh (-2147483648) 14 = 131072 from by decide]
  exact own_andp x 131072 17 (by decide) h1 h2
theorem own_h_18 (x : Int32) (h1 : 262144 ≤ x.toInt) (h2 : x.toInt < 524288) : own_hob x = 262144 := by
  unfold own_hob
  rw [own_z_18 x h1 h2, show own_sh (-2147483648) 13 = 262144 from by decide]
  exact own_andp x 262144 18 (by decide) h1 h2
theorem own_h_19 (x : Int32) (h1 : 524288 ≤ x.toInt) (h2 : x.toInt < 1048576) : own_hob x = 524288 := by
  unfold own_hob
  rw [own_z_19 x h1 h2, show own_sh (-2147483648) 12 = 524288 from by decide]
  exact own_andp x 524288 19 (by decide) h1 h2
theorem own_h_20 (x : Int32) (h1 : 1048576 ≤ x.toInt) (h2 : x.toInt < 2097152) : own_hob x = 1048576 := by
  unfold own_hob
  rw [own_z_20 x h1 h2, show own_sh (-2147483648) 11 = 1048576 from by decide]
  exact own_andp x 1048576 20 (by decide) h1 h2
theorem own_h_21 (x : Int32) (h1 : 2097152 ≤ x.toInt) (h2 : x.toInt < 4194304) : own_hob x = 2097152 := by
  unfold own_hob
  rw [own_z_21 x h1 h2, show own_sh (-2147483648) 10 = 2097152 from by decide]
  exact own_andp x 2097152 21 (by decide) h1 h2
theorem own_h_22 (x : Int32) (h1 : 4194304 ≤ x.toInt) (h2 : x.toInt < 8388608) : own_hob x = 4194304 := by
  unfold own_hob
  rw [own_z_22 x h1 h2, show own_sh (-2147483648) 9 = 4194304 from by decide]
  exact own_andp x 4194304 22 (by decide) h1 h2
theorem own_h_23 (x : Int32) (h1 : 8388608 ≤ x.toInt) (h2 : x.toInt < 16777216) : own_hob x = 8388608 := by
  unfold own_hob
  rw [own_z_23 x h1 h2, show own_sh (-2147483648) 8 = 8388608 from by decide]
  exact own_andp x 8388608 23 (by decide) h1 h2
theorem own_h_24 (x : Int32) (h1 : 16777216 ≤ x.toInt) (h2 : x.toInt < 33554432) : own_hob x = 16777216 := by
  unfold own_hob
  rw [own_z_24 x h1 h2, show own_sh (-2147483648) 7 = 16777216 from by decide]
  exact own_andp x 16777216 24 (by decide) h1 h2
theorem own_h_25 (x : Int32) (h1 : 33554432 ≤ x.toInt) (h2 : x.toInt < 67108864) : own_hob x = 33554432 := by
  unfold own_hob
  rw [own_z_25 x h1 h2, show own_sh (-2147483648) 6 = 33554432 from by decide]
  exact own_andp x 33554432 25 (by decide) h1 h2
theorem own_h_26 (x : Int32) (h1 : 67108864 ≤ x.toInt) (h2 : x.toInt < 134217728) : own_hob x = 67108864 := by
  unfold own_hob
  rw [own_z_26 x h1 h2, show own_sh (-2147483648) 5 = 67108864 from by decide]
  exact own_andp x 67108864 26 (by decide) h1 h2
theorem own_h_27 (x : Int32) (h1 : 134217728 ≤ x.toInt) (h2 : x.toInt < 268435456) : own_hob x = 134217728 := by
  unfold own_hob
  rw [own_z_27 x h1 h2, show own_sh (-2147483648) 4 = 134217728 from by decide]
  exact own_andp x 134217728 27 (by decide) h1 h2
theorem own_h_28 (x : Int32) (h1 : 268435456 ≤ x.toInt) (h2 : x.toInt < 536870912) : own_hob x = 268435456 := by
  unfold own_hob
  rw [own_z_28 x h1 h2, show own_sh (-2147483648) 3 = 268435456 from by decide]
  exact own_andp x 268435456 28 (by decide) h1 h2
theorem own_h_29 (x : Int32) (h1 : 536870912 ≤ x.toInt) (h2 : x.toInt < 1073741824) : own_hob x = 536870912 := by
  unfold own_hob
  rw [own_z_29 x h1 h2, show own_sh (-2147483648) 2 = 536870912 from by decide]
  exact own_andp x 536870912 29 (by decide) h1 h2
def own_good (k s : Int32) : Prop := own_slots k = s ∧ (0 : Int32) < s ∧ (s &&& (s - 1)) = 0 ∧ ¬ (s < 2) ∧ ¬ (s.toInt64 < (4 : Int64) * k.toInt64) ∧ (s = 2 ∨ (s / 2).toInt64 < (4 : Int64) * k.toInt64)
theorem own_fin (k v s : Int32) (P : Int) (hk0 : 0 ≤ k.toInt) (hk1 : k.toInt ≤ 268435456) (hv : v.toInt = 1 ∧ 4 * k.toInt - 1 ≤ 1 ∨ v.toInt = 4 * k.toInt - 1) (hP : P = 1 ∨ 2 ≤ P) (h1 : P ≤ v.toInt) (h2 : v.toInt < 2 * P) (hs : s.toInt = 2 * P) (he : own_slots k = s) (ha : s &&& (s - 1) = 0) : own_good k s := by
  have c1 := c_i2l s
  have c2 := c_i2l k
  have c3 := c_lmul 4 k.toInt64
  have c4 : (4 : Int64).toInt = 4 := rfl
  have c5 := rng64 (4 * k.toInt64)
  have c6 : (2 : Int32).toInt = 2 := rfl
  have c7 : (0 : Int32).toInt = 0 := rfl
  have c8 := (c_idiv s 2 2 (by rfl) (by decide)).1 (by omega)
  have c9 := c_i2l (s / 2)
  rw [c4, c2] at c3
  refine ⟨he, ?_, ha, ?_, ?_, ?_⟩
  · rw [Int32.lt_iff_toInt_lt]; omega
  · rw [Int32.lt_iff_toInt_lt]; omega
  · rw [Int64.lt_iff_toInt_lt]; omega
  · rcases hP with hP | hP
    · left; apply Int32.toInt_inj.mp; omega
    · right; rw [Int64.lt_iff_toInt_lt]; omega
theorem own_val (k : Int32) (h0 : 0 ≤ k.toInt) (h1 : k.toInt ≤ 268435456) : 1 ≤ (own_max 1 ((4 * k) - 1)).toInt ∧ (own_max 1 ((4 * k) - 1)).toInt < 1073741824 ∧ ((own_max 1 ((4 * k) - 1)).toInt = 1 ∧ 4 * k.toInt - 1 ≤ 1 ∨ (own_max 1 ((4 * k) - 1)).toInt = 4 * k.toInt - 1) := by
  have c1 := c_imul 4 k
  have c2 := c_isub (4 * k) 1
  have c3 : (4 : Int32).toInt = 4 := rfl
  have c4 : (1 : Int32).toInt = 1 := rfl
  have c5 := rng32 (4 * k)
  have c6 := rng32 (4 * k - 1)
  rw [c3] at c1
  unfold own_max
  split
  · rename_i q
    rw [Int32.lt_iff_toInt_lt] at q
    omega
  · rename_i q
    rw [Int32.lt_iff_toInt_lt] at q
    omega
theorem own_K (x : Int32) : 0 ≤ ((x &&& 536870911) % 268435457).toInt ∧ ((x &&& 536870911) % 268435457).toInt ≤ 268435456 := by
  have h := c_and x 536870911 (by decide)
  have h2 : ((x &&& 536870911) % 268435457).toInt = (x &&& 536870911).toInt % 268435457 := (c_irem (x &&& 536870911) 268435457 268435457 (by rfl)).1 h.1
  rw [h2]
  omega
theorem own_c_0 (k v : Int32) (h0 : 0 ≤ k.toInt) (h1 : k.toInt ≤ 268435456) (hv : v = own_max 1 ((4 * k) - 1)) (a3 : v.toInt = 1 ∧ 4 * k.toInt - 1 ≤ 1 ∨ v.toInt = 4 * k.toInt - 1) (q1 : 1 ≤ v.toInt) (q2 : v.toInt < 2) : own_good k 2 :=
  own_fin k v 2 1 h0 h1 a3 (by decide) q1 q2 (by rfl) (by unfold own_slots; rw [← hv, own_h_0 v q1 q2]; decide) (by decide)
theorem own_c_1 (k v : Int32) (h0 : 0 ≤ k.toInt) (h1 : k.toInt ≤ 268435456) (hv : v = own_max 1 ((4 * k) - 1)) (a3 : v.toInt = 1 ∧ 4 * k.toInt - 1 ≤ 1 ∨ v.toInt = 4 * k.toInt - 1) (q1 : 2 ≤ v.toInt) (q2 : v.toInt < 4) : own_good k 4 :=
  own_fin k v 4 2 h0 h1 a3 (by decide) q1 q2 (by rfl) (by unfold own_slots; rw [← hv, own_h_1 v q1 q2]; decide) (by decide)
theorem own_c_2 (k v : Int32) (h0 : 0 ≤ k.toInt) (h1 : k.toInt ≤ 268435456) (hv : v = own_max 1 ((4 * k) - 1)) (a3 : v.toInt = 1 ∧ 4 * k.toInt - 1 ≤ 1 ∨ v.toInt = 4 * k.toInt - 1) (q1 : 4 ≤ v.toInt) (q2 : v.toInt < 8) : own_good k 8 :=
  own_fin k v 8 4 h0 h1 a3 (by decide) q1 q2 (by rfl) (by unfold own_slots; rw [← hv, own_h_2 v q1 q2]; decide) (by decide)
theorem own_c_3 (k v : Int32) (h0 : 0 ≤ k.toInt) (h1 : k.toInt ≤ 268435456) (hv : v = own_max 1 ((4 * k) - 1)) (a3 : v.toInt = 1 ∧ 4 * k.toInt - 1 ≤ 1 ∨ v.toInt = 4 * k.toInt - 1) (q1 : 8 ≤ v.toInt) (q2 : v.toInt < 16) : own_good k 16 :=
  own_fin k v 16 8 h0 h1 a3 (by decide) q1 q2 (by rfl) (by unfold own_slots; rw [← hv, own_h_3 v q1 q2]; decide) (by decide)
theorem own_c_4 (k v : Int32) (h0 : 0 ≤ k.toInt) (h1 : k.toInt ≤ 268435456) (hv : v = own_max 1 ((4 * k) - 1)) (a3 : v.toInt = 1 ∧ 4 * k.toInt - 1 ≤ 1 ∨ v.toInt = 4 * k.toInt - 1) (q1 : 16 ≤ v.toInt) (q2 : v.toInt < 32) : own_good k 32 :=
  own_fin k v 32 16 h0 h1 a3 (by decide) q1 q2 (by rfl) (by unfold own_slots; rw [← hv, own_h_4 v q1 q2]; decide) (by decide)
theorem own_c_5 (k v : Int32) (h0 : 0 ≤ k.toInt) (h1 : k.toInt ≤ 268435456) (hv : v = own_max 1 ((4 * k) - 1)) (a3 : v.toInt = 1 ∧ 4 * k.toInt - 1 ≤ 1 ∨ v.toInt = 4 * k.toInt - 1) (q1 : 32 ≤ v.toInt) (q2 : v.toInt < 64) : own_good k 64 :=
  own_fin k v 64 32 h0 h1 a3 (by decide) q1 q2 (by rfl) (by unfold own_slots; rw [← hv, own_h_5 v q1 q2]; decide) (by decide)
theorem own_c_6 (k v : Int32) (h0 : 0 ≤ k.toInt) (h1 : k.toInt ≤ 268435456) (hv : v = own_max 1 ((4 * k) - 1)) (a3 : v.toInt = 1 ∧ 4 * k.toInt - 1 ≤ 1 ∨ v.toInt = 4 * k.toInt - 1) (q1 : 64 ≤ v.toInt) (q2 : v.toInt < 128) : own_good k 128 :=
  own_fin k v 128 64 h0 h1 a3 (by decide) q1 q2 (by rfl) (by unfold own_slots; rw [← hv, own_h_6 v q1 q2]; decide) (by decide)
theorem own_c_7 (k v : Int32) (h0 : 0 ≤ k.toInt) (h1 : k.toInt ≤ 268435456) (hv : v = own_max 1 ((4 * k) - 1)) (a3 : v.toInt = 1 ∧ 4 * k.toInt - 1 ≤ 1 ∨ v.toInt = 4 * k.toInt - 1) (q1 : 128 ≤ v.toInt) (q2 : v.toInt < 256) : own_good k 256 :=
  own_fin k v 256 128 h0 h1 a3 (by decide) q1 q2 (by rfl) (by unfold own_slots; rw [← hv, own_h_7 v q1 q2]; decide) (by decide)
theorem own_c_8 (k v : Int32) (h0 : 0 ≤ k.toInt) (h1 : k.toInt ≤ 268435456) (hv : v = own_max 1 ((4 * k) - 1)) (a3 : v.toInt = 1 ∧ 4 * k.toInt - 1 ≤ 1 ∨ v.toInt = 4 * k.toInt - 1) (q1 : 256 ≤ v.toInt) (q2 : v.toInt < 512) : own_good k 512 :=
  own_fin k v 512 256 h0 h1 a3 (by decide) q1 q2 (by rfl) (by unfold own_slots; rw [← hv, own_h_8 v q1 q2]; decide) (by decide)
theorem own_c_9 (k v : Int32) (h0 : 0 ≤ k.toInt) (h1 : k.toInt ≤ 268435456) (hv : v = own_max 1 ((4 * k) - 1)) (a3 : v.toInt = 1 ∧ 4 * k.toInt - 1 ≤ 1 ∨ v.toInt = 4 * k.toInt - 1) (q1 : 512 ≤ v.toInt) (q2 : v.toInt < 1024) : own_good k 1024 :=
  own_fin k v 1024 512 h0 h1 a3 (by decide) q1 q2 (by rfl) (by unfold own_slots; rw [← hv, own_h_9 v q1 q2]; decide) (by decide)
theorem own_c_10 (k v : Int32) (h0 : 0 ≤ k.toInt) (h1 : k.toInt ≤ 268435456) (hv : v = own_max 1 ((4 * k) - 1)) (a3 : v.toInt = 1 ∧ 4 * k.toInt - 1 ≤ 1 ∨ v.toInt = 4 * k.toInt - 1) (q1 : 1024 ≤ v.toInt) (q2 : v.toInt < 2048) : own_good k 2048 :=
  own_fin k v 2048 1024 h0 h1 a3 (by decide) q1 q2 (by rfl) (by unfold own_slots; rw [← hv, own_h_10 v q1 q2]; decide) (by decide)
theorem own_c_11 (k v : Int32) (h0 : 0 ≤ k.toInt) (h1 : k.toInt ≤ 268435456) (hv : v = own_max 1 ((4 * k) - 1)) (a3 : v.toInt = 1 ∧ 4 * k.toInt - 1 ≤ 1 ∨ v.toInt = 4 * k.toInt - 1) (q1 : 2048 ≤ v.toInt) (q2 : v.toInt < 4096) : own_good k 4096 :=
  own_fin k v 4096 2048 h0 h1 a3 (by decide) q1 q2 (by rfl) (by unfold own_slots; rw [← hv, own_h_11 v q1 q2]; decide) (by decide)
theorem own_c_12 (k v : Int32) (h0 : 0 ≤ k.toInt) (h1 : k.toInt ≤ 268435456) (hv : v = own_max 1 ((4 * k) - 1)) (a3 : v.toInt = 1 ∧ 4 * k.toInt - 1 ≤ 1 ∨ v.toInt = 4 * k.toInt - 1) (q1 : 4096 ≤ v.toInt) (q2 : v.toInt < 8192) : own_good k 8192 :=
  own_fin k v 8192 4096 h0 h1 a3 (by decide) q1 q2 (by rfl) (by unfold own_slots; rw [← hv, own_h_12 v q1 q2]; decide) (by decide)
theorem own_c_13 (k v : Int32) (h0 : 0 ≤ k.toInt) (h1 : k.toInt ≤ 268435456) (hv : v = own_max 1 ((4 * k) - 1)) (a3 : v.toInt = 1 ∧ 4 * k.toInt - 1 ≤ 1 ∨ v.toInt = 4 * k.toInt - 1) (q1 : 8192 ≤ v.toInt) (q2 : v.toInt < 16384) : own_good k 16384 :=
  own_fin k v 16384 8192 h0 h1 a3 (by decide) q1 q2 (by rfl) (by unfold own_slots; rw [← hv, own_h_13 v q1 q2]; decide) (by decide)
theorem own_c_14 (k v : Int32) (h0 : 0 ≤ k.toInt) (h1 : k.toInt ≤ 268435456) (hv : v = own_max 1 ((4 * k) - 1)) (a3 : v.toInt = 1 ∧ 4 * k.toInt - 1 ≤ 1 ∨ v.toInt = 4 * k.toInt - 1) (q1 : 16384 ≤ v.toInt) (q2 : v.toInt < 32768) : own_good k 32768 :=
  own_fin k v 32768 16384 h0 h1 a3 (by decide) q1 q2 (by rfl) (by unfold own_slots; rw [← hv, own_h_14 v q1 q2]; decide) (by decide)
theorem own_c_15 (k v : Int32) (h0 : 0 ≤ k.toInt) (h1 : k.toInt ≤ 268435456) (hv : v = own_max 1 ((4 * k) - 1)) (a3 : v.toInt = 1 ∧ 4 * k.toInt - 1 ≤ 1 ∨ v.toInt = 4 * k.toInt - 1) (q1 : 32768 ≤ v.toInt) (q2 : v.toInt < 65536) : own_good k 65536 :=
  own_fin k v 65536 32768 h0 h1 a3 (by decide) q1 q2 (by rfl) (by unfold own_slots; rw [← hv, own_h_15 v q1 q2]; decide) (by decide)
theorem own_c_16 (k v : Int32) (h0 : 0 ≤ k.toInt) (h1 : k.toInt ≤ 268435456) (hv : v = own_max 1 ((4 * k) - 1)) (a3 : v.toInt = 1 ∧ 4 * k.toInt - 1 ≤ 1 ∨ v.toInt = 4 * k.toInt - 1) (q1 : 65536 ≤ v.toInt) (q2 : v.toInt < 131072) : own_good k 131072 :=
  own_fin k v 131072 65536 h0 h1 a3 (by decide) q1 q2 (by rfl) (by unfold own_slots; rw [← hv, own_h_16 v q1 q2]; decide) (by decide)
theorem own_c_17 (k v : Int32) (h0 : 0 ≤ k.toInt) (h1 : k.toInt ≤ 268435456) (hv : v = own_max 1 ((4 * k) - 1)) (a3 : v.toInt = 1 ∧ 4 * k.toInt - 1 ≤ 1 ∨ v.toInt = 4 * k.toInt - 1) (q1 : 131072 ≤ v.toInt) (q2 : v.toInt < 262144) : own_good k 262144 :=
  own_fin k v 262144 131072 h0 h1 a3 (by decide) q1 q2 (by rfl) (by unfold own_slots; rw [← hv, own_h_17 v q1 q2]; decide) (by decide)
theorem own_c_18 (k v : Int32) (h0 : 0 ≤ k.toInt) (h1 : k.toInt ≤ 268435456) (hv : v = own_max 1 ((4 * k) - 1)) (a3 : v.toInt = 1 ∧ 4 * k.toInt - 1 ≤ 1 ∨ v.toInt = 4 * k.toInt - 1) (q1 : 262144 ≤ v.toInt) (q2 : v.toInt < 524288) : own_good k 524288 :=
  own_fin k v 524288 262144 h0 h1 a3 (by decide) q1 q2 (by rfl) (by unfold own_slots; rw [← hv, own_h_18 v q1 q2]; decide) (by decide)
theorem own_c_19 (k v : Int32) (h0 : 0 ≤ k.toInt) (h1 : k.toInt ≤ 268435456) (hv : v = own_max 1 ((4 * k) - 1)) (a3 : v.toInt = 1 ∧ 4 * k.toInt - 1 ≤ 1 ∨ v.toInt = 4 * k.toInt - 1) (q1 : 524288 ≤ v.toInt) (q2 : v.toInt < 1048576) : own_good k 1048576 :=
  own_fin k v 1048576 524288 h0 h1 a3 (by decide) q1 q2 (by rfl) (by unfold own_slots; rw [← hv, own_h_19 v q1 q2]; decide) (by decide)
theorem own_c_20 (k v : Int32) (h0 : 0 ≤ k.toInt) (h1 : k.toInt ≤ 268435456) (hv : v = own_max 1 ((4 * k) - 1)) (a3 : v.toInt = 1 ∧ 4 * k.toInt - 1 ≤ 1 ∨ v.toInt = 4 * k.toInt - 1) (q1 : 1048576 ≤ v.toInt) (q2 : v.toInt < 2097152) : own_good k 2097152 :=
  own_fin k v 2097152 1048576 h0 h1 a3 (by decide) q1 q2 (by rfl) (by unfold own_slots; rw [← hv, own_h_20 v q1 q2]; decide) (by decide)
theorem own_c_21 (k v : Int32) (h0 : 0 ≤ k.toInt) (h1 : k.toInt ≤ 268435456) (hv : v = own_max 1 ((4 * k) - 1)) (a3 : v.toInt = 1 ∧ 4 * k.toInt - 1 ≤ 1 ∨ v.toInt = 4 * k.toInt - 1) (q1 : 2097152 ≤ v.toInt) (q2 : v.toInt < 4194304) : own_good k 4194304 :=
  own_fin k v 4194304 2097152 h0 h1 a3 (by decide) q1 q2 (by rfl) (by unfold own_slots; rw [← hv, own_h_21 v q1 q2]; decide) (by decide)
theorem own_c_22 (k v : Int32) (h0 : 0 ≤ k.toInt) (h1 : k.toInt ≤ 268435456) (hv : v = own_max 1 ((4 * k) - 1)) (a3 : v.toInt = 1 ∧ 4 * k.toInt - 1 ≤ 1 ∨ v.toInt = 4 * k.toInt - 1) (q1 : 4194304 ≤ v.toInt) (q2 : v.toInt < 8388608) : own_good k 8388608 :=
  own_fin k v 8388608 4194304 h0 h1 a3 (by decide) q1 q2 (by rfl) (by unfold own_slots; rw [← hv, own_h_22 v q1 q2]; decide) (by decide)
theorem own_c_23 (k v : Int32) (h0 : 0 ≤ k.toInt) (h1 : k.toInt ≤ 268435456) (hv : v = own_max 1 ((4 * k) - 1)) (a3 : v.toInt = 1 ∧ 4 * k.toInt - 1 ≤ 1 ∨ v.toInt = 4 * k.toInt - 1) (q1 : 8388608 ≤ v.toInt) (q2 : v.toInt < 16777216) : own_good k 16777216 :=
  own_fin k v 16777216 8388608 h0 h1 a3 (by decide) q1 q2 (by rfl) (by unfold own_slots; rw [← hv, own_h_23 v q1 q2]; decide) (by decide)
theorem own_c_24 (k v : Int32) (h0 : 0 ≤ k.toInt) (h1 : k.toInt ≤ 268435456) (hv : v = own_max 1 ((4 * k) - 1)) (a3 : v.toInt = 1 ∧ 4 * k.toInt - 1 ≤ 1 ∨ v.toInt = 4 * k.toInt - 1) (q1 : 16777216 ≤ v.toInt) (q2 : v.toInt < 33554432) : own_good k 33554432 :=
  own_fin k v 33554432 16777216 h0 h1 a3 (by decide) q1 q2 (by rfl) (by unfold own_slots; rw [← hv, own_h_24 v q1 q2]; decide) (by decide)
theorem own_c_25 (k v : Int32) (h0 : 0 ≤ k.toInt) (h1 : k.toInt ≤ 268435456) (hv : v = own_max 1 ((4 * k) - 1)) (a3 : v.toInt = 1 ∧ 4 * k.toInt - 1 ≤ 1 ∨ v.toInt = 4 * k.toInt - 1) (q1 : 33554432 ≤ v.toInt) (q2 : v.toInt < 67108864) : own_good k 67108864 :=
  own_fin k v 67108864 33554432 h0 h1 a3 (by decide) q1 q2 (by rfl) (by unfold own_slots; rw [← hv, own_h_25 v q1 q2]; decide) (by decide)
theorem own_c_26 (k v : Int32) (h0 : 0 ≤ k.toInt) (h1 : k.toInt ≤ 268435456) (hv : v = own_max 1 ((4 * k) - 1)) (a3 : v.toInt = 1 ∧ 4 * k.toInt - 1 ≤ 1 ∨ v.toInt = 4 * k.toInt - 1) (q1 : 67108864 ≤ v.toInt) (q2 : v.toInt < 134217728) : own_good k 134217728 :=
  own_fin k v 134217728 67108864 h0 h1 a3 (by decide) q1 q2 (by rfl) (by unfold own_slots; rw [← hv, own_h_26 v q1 q2]; decide) (by decide)
theorem own_c_27 (k v : Int32) (h0 : 0 ≤ k.toInt) (h1 : k.toInt ≤ 268435456) (hv : v = own_max 1 ((4 * k) - 1)) (a3 : v.toInt = 1 ∧ 4 * k.toInt - 1 ≤ 1 ∨ v.toInt = 4 * k.toInt - 1) (q1 : 134217728 ≤ v.toInt) (q2 : v.toInt < 268435456) : own_good k 268435456 :=
  own_fin k v 268435456 134217728 h0 h1 a3 (by decide) q1 q2 (by rfl) (by unfold own_slots; rw [← hv, own_h_27 v q1 q2]; decide) (by decide)
theorem own_c_28 (k v : Int32) (h0 : 0 ≤ k.toInt) (h1 : k.toInt ≤ 268435456) (hv : v = own_max 1 ((4 * k) - 1)) (a3 : v.toInt = 1 ∧ 4 * k.toInt - 1 ≤ 1 ∨ v.toInt = 4 * k.toInt - 1) (q1 : 268435456 ≤ v.toInt) (q2 : v.toInt < 536870912) : own_good k 536870912 :=
  own_fin k v 536870912 268435456 h0 h1 a3 (by decide) q1 q2 (by rfl) (by unfold own_slots; rw [← hv, own_h_28 v q1 q2]; decide) (by decide)
theorem own_c_29 (k v : Int32) (h0 : 0 ≤ k.toInt) (h1 : k.toInt ≤ 268435456) (hv : v = own_max 1 ((4 * k) - 1)) (a3 : v.toInt = 1 ∧ 4 * k.toInt - 1 ≤ 1 ∨ v.toInt = 4 * k.toInt - 1) (q1 : 536870912 ≤ v.toInt) (q2 : v.toInt < 1073741824) : own_good k 1073741824 :=
  own_fin k v 1073741824 536870912 h0 h1 a3 (by decide) q1 q2 (by rfl) (by unfold own_slots; rw [← hv, own_h_29 v q1 q2]; decide) (by decide)
set_option maxHeartbeats 4000000 in
theorem own_all (k : Int32) (h0 : 0 ≤ k.toInt) (h1 : k.toInt ≤ 268435456) : ∃ s, own_good k s := by
  obtain ⟨a1, a2, a3⟩ := own_val k h0 h1
  obtain ⟨v, hv⟩ : ∃ v, v = own_max 1 ((4 * k) - 1) := ⟨_, rfl⟩
  rw [← hv] at a1 a2 a3
  by_cases c0 : v.toInt < 2
  · exact ⟨2, own_c_0 k v h0 h1 hv a3 a1 c0⟩
  by_cases c1 : v.toInt < 4
  · exact ⟨4, own_c_1 k v h0 h1 hv a3 (Int.not_lt.mp c0) c1⟩
  by_cases c2 : v.toInt < 8
  · exact ⟨8, own_c_2 k v h0 h1 hv a3 (Int.not_lt.mp c1) c2⟩
  by_cases c3 : v.toInt < 16
  · exact ⟨16, own_c_3 k v h0 h1 hv a3 (Int.not_lt.mp c2) c3⟩
  by_cases c4 : v.toInt < 32
  · exact ⟨32, own_c_4 k v h0 h1 hv a3 (Int.not_lt.mp c3) c4⟩
  by_cases c5 : v.toInt < 64
  · exact ⟨64, own_c_5 k v h0 h1 hv a3 (Int.not_lt.mp c4) c5⟩
  by_cases c6 : v.toInt < 128
  · exact ⟨128, own_c_6 k v h0 h1 hv a3 (Int.not_lt.mp c5) c6⟩
  by_cases c7 : v.toInt < 256
  · exact ⟨256, own_c_7 k v h0 h1 hv a3 (Int.not_lt.mp c6) c7⟩
  by_cases c8 : v.toInt < 512
  · exact ⟨512, own_c_8 k v h0 h1 hv a3 (Int.not_lt.mp c7) c8⟩
  by_cases c9 : v.toInt < 1024
  · exact ⟨1024, own_c_9 k v h0 h1 hv a3 (Int.not_lt.mp c8) c9⟩
  by_cases c10 : v.toInt < 2048
  · exact ⟨2048, own_c_10 k v h0 h1 hv a3 (Int.not_lt.mp c9) c10⟩
  by_cases c11 : v.toInt < 4096
  · exact ⟨4096, own_c_11 k v h0 h1 hv a3 (Int.not_lt.mp c10) c11⟩
  by_cases c12 : v.toInt < 8192
  · exact ⟨8192, own_c_12 k v h0 h1 hv a3 (Int.not_lt.mp c11) c12⟩
  by_cases c13 : v.toInt < 16384
  · exact ⟨16384, own_c_13 k v h0 h1 hv a3 (Int.not_lt.mp c12) c13⟩
  by_cases c14 : v.toInt < 32768
  · exact ⟨32768, own_c_14 k v h0 h1 hv a3 (Int.not_lt.mp c13) c14⟩
  by_cases c15 : v.toInt < 65536
  · exact ⟨65536, own_c_15 k v h0 h1 hv a3 (Int.not_lt.mp c14) c15⟩
  by_cases c16 : v.toInt < 131072
  · exact ⟨131072, own_c_16 k v h0 h1 hv a3 (Int.not_lt.mp c15) c16⟩
  by_cases c17 : v.toInt < 262144
  · exact ⟨262144, own_c_17 k v h0 h1 hv a3 (Int.not_lt.mp c16) c17⟩
  by_cases c18 : v.toInt < 524288
  · exact ⟨524288, own_c_18 k v h0 h1 hv a3 (Int.not_lt.mp c17) c18⟩
  by_cases c19 : v.toInt < 1048576
  · exact ⟨1048576, own_c_19 k v h0 h1 hv a3 (Int.not_lt.mp c18) c19⟩
  by_cases c20 : v.toInt < 2097152
  · exact ⟨2097152, own_c_20 k v h0 h1 hv a3 (Int.not_lt.mp c19) c20⟩
  by_cases c21 : v.toInt < 4194304
  · exact ⟨4194304, own_c_21 k v h0 h1 hv a3 (Int.not_lt.mp c20) c21⟩
  by_cases c22 : v.toInt < 8388608
  · exact ⟨8388608, own_c_22 k v h0 h1 hv a3 (Int.not_lt.mp c21) c22⟩
  by_cases c23 : v.toInt < 16777216
  · exact ⟨16777216, own_c_23 k v h0 h1 hv a3 (Int.not_lt.mp c22) c23⟩
  by_cases c24 : v.toInt < 33554432
  · exact ⟨33554432, own_c_24 k v h0 h1 hv a3 (Int.not_lt.mp c23) c24⟩
  by_cases c25 : v.toInt < 67108864
  · exact ⟨67108864, own_c_25 k v h0 h1 hv a3 (Int.not_lt.mp c24) c25⟩
  by_cases c26 : v.toInt < 134217728
  · exact ⟨134217728, own_c_26 k v h0 h1 hv a3 (Int.not_lt.mp c25) c26⟩
  by_cases c27 : v.toInt < 268435456
  · exact ⟨268435456, own_c_27 k v h0 h1 hv a3 (Int.not_lt.mp c26) c27⟩
  by_cases c28 : v.toInt < 536870912
  · exact ⟨536870912, own_c_28 k v h0 h1 hv a3 (Int.not_lt.mp c27) c28⟩
  by_cases c29 : v.toInt < 1073741824
  · exact ⟨1073741824, own_c_29 k v h0 h1 hv a3 (Int.not_lt.mp c28) c29⟩
  exact absurd a2 c29
theorem d2_0 : decode jdk_29_method_65_code 0 = .ok (.iload_n 0, 1) := by decide +kernel
theorem d2_1 : decode jdk_29_method_65_code 1 = .ok (.iload_n 1, 1) := by decide +kernel
theorem d2_2 : decode jdk_29_method_65_code 2 = .ok (.if_icmp .lt 7, 3) := by decide +kernel
theorem d2_5 : decode jdk_29_method_65_code 5 = .ok (.iload_n 0, 1) := by decide +kernel
theorem d2_6 : decode jdk_29_method_65_code 6 = .ok (.goto 4, 3) := by decide +kernel
theorem d2_9 : decode jdk_29_method_65_code 9 = .ok (.iload_n 1, 1) := by decide +kernel
theorem d2_10 : decode jdk_29_method_65_code 10 = .ok (.ireturn, 1) := by decide +kernel
theorem ef_2 (m : MethodId) (x0 : Int32) (x1 : Int32) : entryFrame m #[(.int x0), (.int x1)] 2 = mkF m 0 #[.val (.int x0), .val (.int x1)] [] := by first | (simp [entryFrame, mkF, argsToLocals, Value.category]; done) | rfl
def Q_2 (Z : State) (p1 : Int32) (p2 : Int32) (r : Int32) (h0 : Heap) (n0 : Nat) (v : Option Value) (h : Heap) (L : List Loc) : Prop := v = some (.int r) ∧ Fr n0 L ∧ h = h0
set_option maxRecDepth 65536 in
set_option maxHeartbeats 40000000 in
theorem rm_2 (l : Launch) (Z : State) (a0 : Array Value) (hw : ∀ d ∈ tables_1, d.before a0 Z = true) (ws : List Jvm.Cond) (p1 : Int32) (p2 : Int32) (r : Int32) (h0 : Heap) (n0 : Nat) (Z0 : n0 ≤ h0.size) (hsp : own_max p1 p2 = r) :
    MetFree l (⟨"java/lang/Math", "max", "(II)I"⟩ : MethodName) (head1 (Jvm.Cond.code (⟨"java/lang/Math", "max", "(II)I"⟩ : MethodName) jdk_29_method_65_code 2 (some .int) :: ws) ({ frames := 0, cells := 0, slots := 0, locals := 0 } : Room)) (fun a U => a = #[(.int p1), (.int p2)] ∧ Z.Warmed39 U.vm ∧ U.heap = h0) (fun _ _ _ _ _ => True) (fun _ U o U' => ∃ v L, o = .returned v ∧ Q_2 Z p1 p2 r h0 n0 v U'.heap L ∧ FrameEnd U o U' L ({ frames := 0, cells := 0, slots := 0, locals := 0 } : Room).cells ({ frames := 0, cells := 0, slots := 0, locals := 0 } : Room).slots) := by
  refine MetFree.of_bodySF (Jvm.Free.JP.mathPlain rfl (by decide +kernel)) hisR ?_
  intro p e s m args below meth c s₁ Bd hml0 hP hK
  obtain ⟨rfl, hZ, hh⟩ := hP
  have hx := Bd.exec
  have hby := Bd.bytes
  have hml : c.maxLocals = 2 := hml0
  have hown : s.vm.findClass "java/lang/Math" = some m.cls := findClass_of_methodNamed Bd.named
  have hnm := (name_of_methodNamed Bd.named Bd.method).1
  have X0 : Stand p l e ({ frames := 0, cells := 0, slots := 0, locals := 0 } : Room) s m #[(.int p1), (.int p2)] below meth c s₁ [] 0 0 := Stand.of_body Bd
  have e0 : s₁.heap = h0 := by rw [← hh, Bd.state]; rfl
  have N0 := Fr.nil n0
  have pw0 : ∀ t, Steps p.tables e below (s₁.setTop (mkF m 0 #[.val (.int p1), .val (.int p2)] [])) t → Steps p.tables e below (s₁.setTop (entryFrame m #[(.int p1), (.int p2)] 2)) t := fun t k => castTop (ef_2 m p1 p2) k
  have K0 : Keep h0 h0 [] := Keep.refl h0 []
  have pw1 : ∀ t, Steps p.tables e below (s₁.setTop (mkF m 2 #[.val (.int p1), .val (.int p2)] [(.int p2), (.int p1)])) t → Steps p.tables e below (s₁.setTop (entryFrame m #[(.int p1), (.int p2)] 2)) t := by
    intro t k
    refine pw0 t ?_
    refine XS.iloadN X0.here hx rfl (hb hby d2_0) rfl ?_
    show Steps p.tables e below (s₁.setTop (mkF m 1 #[.val (.int p1), .val (.int p2)] [(.int p1)])) _
    refine XS.iloadN X0.here hx rfl (hb hby d2_1) rfl ?_
    show Steps p.tables e below (s₁.setTop (mkF m 2 #[.val (.int p1), .val (.int p2)] [(.int p2), (.int p1)])) _
    exact k
  by_cases hc2 : p1 < p2
  · skip
    obtain ⟨fs, hr, hrun, hended, hW, hsame⟩ := X0.leave (v := some (.int p2)) (fun h => by rw [Bd.returns] at h; cases h)
    refine ⟨_, _, pw1 _ ?_, hrun, hended, _, _, rfl, ?_, ⟨_, rfl⟩, hW, hsame.mono (by decide) (by decide)⟩
    · skip
      refine XS.icmpYes X0.here hx rfl (pc0 := 2) (pc' := 9) rfl (hb hby d2_2) rfl (tlt hc2).1 (by decide) (by decide) ?_
      show Steps p.tables e below (s₁.setTop (mkF m 9 #[.val (.int p1), .val (.int p2)] [])) _
      refine XS.iloadN X0.here hx rfl (hb hby d2_9) rfl ?_
      show Steps p.tables e below (s₁.setTop (mkF m 10 #[.val (.int p1), .val (.int p2)] [(.int p2)])) _
      exact retI X0 hx Bd.returns (hb hby d2_10) hr
    · show Q_2 Z p1 p2 r h0 n0 _ s₁.heap _
      rw [e0]
      exact ⟨by rw [← hsp]; unfold own_max; rw [if_pos hc2], N0, rfl⟩
  · skip
    obtain ⟨fs, hr, hrun, hended, hW, hsame⟩ := X0.leave (v := some (.int p1)) (fun h => by rw [Bd.returns] at h; cases h)
    refine ⟨_, _, pw1 _ ?_, hrun, hended, _, _, rfl, ?_, ⟨_, rfl⟩, hW, hsame.mono (by decide) (by decide)⟩
    · skip
      refine XS.icmpNo X0.here hx rfl (hb hby d2_2) rfl (flt hc2).1 ?_
      show Steps p.tables e below (s₁.setTop (mkF m 5 #[.val (.int p1), .val (.int p2)] [])) _
      refine XS.iloadN X0.here hx rfl (hb hby d2_5) rfl ?_
      show Steps p.tables e below (s₁.setTop (mkF m 6 #[.val (.int p1), .val (.int p2)] [(.int p1)])) _
      refine XS.goto X0.here hx rfl (pc0 := 6) (pc' := 10) rfl (hb hby d2_6) (by decide) (by decide) ?_
      show Steps p.tables e below (s₁.setTop (mkF m 10 #[.val (.int p1), .val (.int p2)] [(.int p1)])) _
      exact retI X0 hx Bd.returns (hb hby d2_10) hr
    · show Q_2 Z p1 p2 r h0 n0 _ s₁.heap _
      rw [e0]
      exact ⟨by rw [← hsp]; unfold own_max; rw [if_neg hc2], N0, rfl⟩
theorem d4_0 : decode jdk_33_method_47_code 0 = .ok (.iload_n 0, 1) := by decide +kernel
theorem d4_1 : decode jdk_33_method_47_code 1 = .ok (.ifCond .gt 14, 3) := by decide +kernel
theorem d4_15 : decode jdk_33_method_47_code 15 = .ok (.bipush 31, 2) := by decide +kernel
theorem d4_17 : decode jdk_33_method_47_code 17 = .ok (.istore_n 1, 1) := by decide +kernel
theorem d4_18 : decode jdk_33_method_47_code 18 = .ok (.iload_n 0, 1) := by decide +kernel
theorem d4_19 : decode jdk_33_method_47_code 19 = .ok (.ldc_w 264, 3) := by decide +kernel
theorem d4_22 : decode jdk_33_method_47_code 22 = .ok (.if_icmp .lt 11, 3) := by decide +kernel
theorem d4_25 : decode jdk_33_method_47_code 25 = .ok (.iinc 1 (-16), 3) := by decide +kernel
theorem d4_28 : decode jdk_33_method_47_code 28 = .ok (.iload_n 0, 1) := by decide +kernel
theorem d4_29 : decode jdk_33_method_47_code 29 = .ok (.bipush 16, 2) := by decide +kernel
theorem d4_31 : decode jdk_33_method_47_code 31 = .ok (.iushr, 1) := by decide +kernel
theorem d4_32 : decode jdk_33_method_47_code 32 = .ok (.istore_n 0, 1) := by decide +kernel
theorem d4_33 : decode jdk_33_method_47_code 33 = .ok (.iload_n 0, 1) := by decide +kernel
theorem d4_34 : decode jdk_33_method_47_code 34 = .ok (.sipush 256, 3) := by decide +kernel
theorem d4_37 : decode jdk_33_method_47_code 37 = .ok (.if_icmp .lt 11, 3) := by decide +kernel
theorem d4_40 : decode jdk_33_method_47_code 40 = .ok (.iinc 1 (-8), 3) := by decide +kernel
theorem d4_43 : decode jdk_33_method_47_code 43 = .ok (.iload_n 0, 1) := by decide +kernel
theorem d4_44 : decode jdk_33_method_47_code 44 = .ok (.bipush 8, 2) := by decide +kernel
theorem d4_46 : decode jdk_33_method_47_code 46 = .ok (.iushr, 1) := by decide +kernel
theorem d4_47 : decode jdk_33_method_47_code 47 = .ok (.istore_n 0, 1) := by decide +kernel
theorem d4_48 : decode jdk_33_method_47_code 48 = .ok (.iload_n 0, 1) := by decide +kernel
theorem d4_49 : decode jdk_33_method_47_code 49 = .ok (.bipush 16, 2) := by decide +kernel
theorem d4_51 : decode jdk_33_method_47_code 51 = .ok (.if_icmp .lt 10, 3) := by decide +kernel
theorem d4_54 : decode jdk_33_method_47_code 54 = .ok (.iinc 1 (-4), 3) := by decide +kernel
theorem d4_57 : decode jdk_33_method_47_code 57 = .ok (.iload_n 0, 1) := by decide +kernel
theorem d4_58 : decode jdk_33_method_47_code 58 = .ok (.iconst 4, 1) := by decide +kernel
theorem d4_59 : decode jdk_33_method_47_code 59 = .ok (.iushr, 1) := by decide +kernel
theorem d4_60 : decode jdk_33_method_47_code 60 = .ok (.istore_n 0, 1) := by decide +kernel
theorem d4_61 : decode jdk_33_method_47_code 61 = .ok (.iload_n 0, 1) := by decide +kernel
theorem d4_62 : decode jdk_33_method_47_code 62 = .ok (.iconst 4, 1) := by decide +kernel
theorem d4_63 : decode jdk_33_method_47_code 63 = .ok (.if_icmp .lt 10, 3) := by decide +kernel
theorem d4_66 : decode jdk_33_method_47_code 66 = .ok (.iinc 1 (-2), 3) := by decide +kernel
theorem d4_69 : decode jdk_33_method_47_code 69 = .ok (.iload_n 0, 1) := by decide +kernel
theorem d4_70 : decode jdk_33_method_47_code 70 = .ok (.iconst 2, 1) := by decide +kernel
theorem d4_71 : decode jdk_33_method_47_code 71 = .ok (.iushr, 1) := by decide +kernel
theorem d4_72 : decode jdk_33_method_47_code 72 = .ok (.istore_n 0, 1) := by decide +kernel
theorem d4_73 : decode jdk_33_method_47_code 73 = .ok (.iload_n 1, 1) := by decide +kernel
theorem d4_74 : decode jdk_33_method_47_code 74 = .ok (.iload_n 0, 1) := by decide +kernel
theorem d4_75 : decode jdk_33_method_47_code 75 = .ok (.iconst 1, 1) := by decide +kernel
theorem d4_76 : decode jdk_33_method_47_code 76 = .ok (.iushr, 1) := by decide +kernel
theorem d4_77 : decode jdk_33_method_47_code 77 = .ok (.isub, 1) := by decide +kernel
theorem d4_78 : decode jdk_33_method_47_code 78 = .ok (.ireturn, 1) := by decide +kernel
theorem ef_4 (m : MethodId) (x0 : Int32) : entryFrame m #[(.int x0)] 2 = mkF m 0 #[.val (.int x0), .unset] [] := by first | (simp [entryFrame, mkF, argsToLocals, Value.category]; done) | rfl
theorem pn_java_lang_Integer : plainName "java/lang/Integer" = true := by first | (simp [plainName, overriddenIn]; done) | decide +kernel
def Q_4 (Z : State) (p1 : Int32) (r : Int32) (h0 : Heap) (n0 : Nat) (v : Option Value) (h : Heap) (L : List Loc) : Prop := v = some (.int r) ∧ Fr n0 L ∧ h = h0
set_option maxRecDepth 65536 in
set_option maxHeartbeats 40000000 in
theorem rm_4 (l : Launch) (Z : State) (a0 : Array Value) (hw : ∀ d ∈ tables_1, d.before a0 Z = true) (ws : List Jvm.Cond) (p1 : Int32) (r : Int32) (h0 : Heap) (n0 : Nat) (Z0 : n0 ≤ h0.size) (hpos : (0 : Int32) < p1) (hsp : own_n0 p1 = r) :
    MetFree l (⟨"java/lang/Integer", "numberOfLeadingZeros", "(I)I"⟩ : MethodName) (head1 (Jvm.Cond.code (⟨"java/lang/Integer", "numberOfLeadingZeros", "(I)I"⟩ : MethodName) jdk_33_method_47_code 2 (some .int) :: ws) ({ frames := 0, cells := 0, slots := 0, locals := 0 } : Room)) (fun a U => a = #[(.int p1)] ∧ Z.Warmed39 U.vm ∧ U.heap = h0) (fun _ _ _ _ _ => True) (fun _ U o U' => ∃ v L, o = .returned v ∧ Q_4 Z p1 r h0 n0 v U'.heap L ∧ FrameEnd U o U' L ({ frames := 0, cells := 0, slots := 0, locals := 0 } : Room).cells ({ frames := 0, cells := 0, slots := 0, locals := 0 } : Room).slots) := by
  refine MetFree.of_bodySF (plainFor_of_name pn_java_lang_Integer) hisR ?_
  intro p e s m args below meth c s₁ Bd hml0 hP hK
  obtain ⟨rfl, hZ, hh⟩ := hP
  have hx := Bd.exec
  have hby := Bd.bytes
  have hml : c.maxLocals = 2 := hml0
  have hown : s.vm.findClass "java/lang/Integer" = some m.cls := findClass_of_methodNamed Bd.named
  have hnm := (name_of_methodNamed Bd.named Bd.method).1
  have X0 : Stand p l e ({ frames := 0, cells := 0, slots := 0, locals := 0 } : Room) s m #[(.int p1)] below meth c s₁ [] 0 0 := Stand.of_body Bd
  have e0 : s₁.heap = h0 := by rw [← hh, Bd.state]; rfl
  have N0 := Fr.nil n0
  have pw0 : ∀ t, Steps p.tables e below (s₁.setTop (mkF m 0 #[.val (.int p1), .unset] [])) t → Steps p.tables e below (s₁.setTop (entryFrame m #[(.int p1)] 2)) t := fun t k => castTop (ef_4 m p1) k
  have K0 : Keep h0 h0 [] := Keep.refl h0 []
  have pw3 : ∀ t, Steps p.tables e below (s₁.setTop (mkF m 22 #[.val (.int p1), .val (.int (31 : Int32))] [(.int (65536 : Int32)), (.int p1)])) t → Steps p.tables e below (s₁.setTop (entryFrame m #[(.int p1)] 2)) t := by
    intro t k
    refine pw0 t ?_
    refine XS.iloadN X0.here hx rfl (hb hby d4_0) rfl ?_
    show Steps p.tables e below (s₁.setTop (mkF m 1 #[.val (.int p1), .unset] [(.int p1)])) _
    refine XS.ifYes X0.here hx rfl (pc0 := 1) (pc' := 15) rfl (hb hby d4_1) rfl ((if0 _ _).trans (tlt (hpos : (0 : Int32) < p1)).2.2.1) (by decide) (by decide) ?_
    show Steps p.tables e below (s₁.setTop (mkF m 15 #[.val (.int p1), .unset] [])) _
    refine XS.bipush X0.here hx rfl (hb hby d4_15) ?_
    show Steps p.tables e below (s₁.setTop (mkF m 17 #[.val (.int p1), .unset] [(.int (31 : Int32))])) _
    refine XS.istoreN X0.here hx rfl (hb hby d4_17) rfl (l' := #[.val (.int p1), .val (.int (31 : Int32))]) rfl ?_
    show Steps p.tables e below (s₁.setTop (mkF m 18 #[.val (.int p1), .val (.int (31 : Int32))] [])) _
    refine XS.iloadN X0.here hx rfl (hb hby d4_18) rfl ?_
    show Steps p.tables e below (s₁.setTop (mkF m 19 #[.val (.int p1), .val (.int (31 : Int32))] [(.int p1)])) _
    refine X0.ldcwInt hx hown (mvT hZ (hw _ (List.mem_of_getElem? (i := 18) rfl))) (g := (mkF m 19 #[.val (.int p1), .val (.int (31 : Int32))] [(.int p1)])) rfl (hb hby d4_19) _ ?_
    show Steps p.tables e below (s₁.setTop (mkF m 22 #[.val (.int p1), .val (.int (31 : Int32))] [(.int (65536 : Int32)), (.int p1)])) _
    exact k
  by_cases hc4 : p1 < (65536 : Int32)
  · skip
    have pw5 : ∀ t, Steps p.tables e below (s₁.setTop (mkF m 37 #[.val (.int p1), .val (.int (31 : Int32))] [(.int (256 : Int32)), (.int p1)])) t → Steps p.tables e below (s₁.setTop (entryFrame m #[(.int p1)] 2)) t := by
      intro t k
      refine pw3 t ?_
      refine XS.icmpYes X0.here hx rfl (pc0 := 22) (pc' := 33) rfl (hb hby d4_22) rfl (tlt hc4).1 (by decide) (by decide) ?_
      show Steps p.tables e below (s₁.setTop (mkF m 33 #[.val (.int p1), .val (.int (31 : Int32))] [])) _
      refine XS.iloadN X0.here hx rfl (hb hby d4_33) rfl ?_
      show Steps p.tables e below (s₁.setTop (mkF m 34 #[.val (.int p1), .val (.int (31 : Int32))] [(.int p1)])) _
      refine XS.sipush X0.here hx rfl (hb hby d4_34) ?_
      show Steps p.tables e below (s₁.setTop (mkF m 37 #[.val (.int p1), .val (.int (31 : Int32))] [(.int (256 : Int32)), (.int p1)])) _
      exact k
    by_cases hc6 : p1 < (256 : Int32)
    · skip
      have pw7 : ∀ t, Steps p.tables e below (s₁.setTop (mkF m 51 #[.val (.int p1), .val (.int (31 : Int32))] [(.int (16 : Int32)), (.int p1)])) t → Steps p.tables e below (s₁.setTop (entryFrame m #[(.int p1)] 2)) t := by
        intro t k
        refine pw5 t ?_
        refine XS.icmpYes X0.here hx rfl (pc0 := 37) (pc' := 48) rfl (hb hby d4_37) rfl (tlt hc6).1 (by decide) (by decide) ?_
        show Steps p.tables e below (s₁.setTop (mkF m 48 #[.val (.int p1), .val (.int (31 : Int32))] [])) _
        refine XS.iloadN X0.here hx rfl (hb hby d4_48) rfl ?_
        show Steps p.tables e below (s₁.setTop (mkF m 49 #[.val (.int p1), .val (.int (31 : Int32))] [(.int p1)])) _
        refine XS.bipush X0.here hx rfl (hb hby d4_49) ?_
        show Steps p.tables e below (s₁.setTop (mkF m 51 #[.val (.int p1), .val (.int (31 : Int32))] [(.int (16 : Int32)), (.int p1)])) _
        exact k
      by_cases hc8 : p1 < (16 : Int32)
      · skip
        have pw9 : ∀ t, Steps p.tables e below (s₁.setTop (mkF m 63 #[.val (.int p1), .val (.int (31 : Int32))] [(.int (4 : Int32)), (.int p1)])) t → Steps p.tables e below (s₁.setTop (entryFrame m #[(.int p1)] 2)) t := by
          intro t k
          refine pw7 t ?_
          refine XS.icmpYes X0.here hx rfl (pc0 := 51) (pc' := 61) rfl (hb hby d4_51) rfl (tlt hc8).1 (by decide) (by decide) ?_
          show Steps p.tables e below (s₁.setTop (mkF m 61 #[.val (.int p1), .val (.int (31 : Int32))] [])) _
          refine XS.iloadN X0.here hx rfl (hb hby d4_61) rfl ?_
          show Steps p.tables e below (s₁.setTop (mkF m 62 #[.val (.int p1), .val (.int (31 : Int32))] [(.int p1)])) _
          refine XS.iconst X0.here hx rfl (hb hby d4_62) ?_
          show Steps p.tables e below (s₁.setTop (mkF m 63 #[.val (.int p1), .val (.int (31 : Int32))] [(.int (4 : Int32)), (.int p1)])) _
          exact k
        by_cases hc10 : p1 < (4 : Int32)
        · skip
          obtain ⟨fs, hr, hrun, hended, hW, hsame⟩ := X0.leave (v := some (.int ((31 : Int32) - ((p1.toUInt32 >>> ((1 : Int32) &&& 31).toUInt32).toInt32)))) (fun h => by rw [Bd.returns] at h; cases h)
          refine ⟨_, _, pw9 _ ?_, hrun, hended, _, _, rfl, ?_, ⟨_, rfl⟩, hW, hsame.mono (by decide) (by decide)⟩
          · skip
            refine XS.icmpYes X0.here hx rfl (pc0 := 63) (pc' := 73) rfl (hb hby d4_63) rfl (tlt hc10).1 (by decide) (by decide) ?_
            show Steps p.tables e below (s₁.setTop (mkF m 73 #[.val (.int p1), .val (.int (31 : Int32))] [])) _
            refine XS.iloadN X0.here hx rfl (hb hby d4_73) rfl ?_
            show Steps p.tables e below (s₁.setTop (mkF m 74 #[.val (.int p1), .val (.int (31 : Int32))] [(.int (31 : Int32))])) _
            refine XS.iloadN X0.here hx rfl (hb hby d4_74) rfl ?_
            show Steps p.tables e below (s₁.setTop (mkF m 75 #[.val (.int p1), .val (.int (31 : Int32))] [(.int p1), (.int (31 : Int32))])) _
            refine XS.iconst X0.here hx rfl (hb hby d4_75) ?_
            show Steps p.tables e below (s₁.setTop (mkF m 76 #[.val (.int p1), .val (.int (31 : Int32))] [(.int (1 : Int32)), (.int p1), (.int (31 : Int32))])) _
            refine XS.iushr X0.here hx rfl (hb hby d4_76) rfl ?_
            show Steps p.tables e below (s₁.setTop (mkF m 77 #[.val (.int p1), .val (.int (31 : Int32))] [(.int ((p1.toUInt32 >>> ((1 : Int32) &&& 31).toUInt32).toInt32)), (.int (31 : Int32))])) _
            refine XS.isub X0.here hx rfl (hb hby d4_77) rfl ?_
            show Steps p.tables e below (s₁.setTop (mkF m 78 #[.val (.int p1), .val (.int (31 : Int32))] [(.int ((31 : Int32) - ((p1.toUInt32 >>> ((1 : Int32) &&& 31).toUInt32).toInt32)))])) _
            exact retI X0 hx Bd.returns (hb hby d4_78) hr
          · show Q_4 Z p1 r h0 n0 _ s₁.heap _
            rw [e0]
            exact ⟨by rw [← hsp]; unfold own_n0; rw [if_pos hc4]; unfold own_n1; rw [if_pos hc6]; unfold own_n2; rw [if_pos hc8]; unfold own_n3; rw [if_pos hc10]; rfl, N0, rfl⟩
        · skip
          obtain ⟨fs, hr, hrun, hended, hW, hsame⟩ := X0.leave (v := some (.int ((29 : Int32) - ((((p1.toUInt32 >>> ((2 : Int32) &&& 31).toUInt32).toInt32).toUInt32 >>> ((1 : Int32) &&& 31).toUInt32).toInt32)))) (fun h => by rw [Bd.returns] at h; cases h)
          refine ⟨_, _, pw9 _ ?_, hrun, hended, _, _, rfl, ?_, ⟨_, rfl⟩, hW, hsame.mono (by decide) (by decide)⟩
          · skip
            refine XS.icmpNo X0.here hx rfl (hb hby d4_63) rfl (flt hc10).1 ?_
            show Steps p.tables e below (s₁.setTop (mkF m 66 #[.val (.int p1), .val (.int (31 : Int32))] [])) _
            refine XS.iinc X0.here hx rfl (hb hby d4_66) rfl (l' := #[.val (.int p1), .val (.int (29 : Int32))]) rfl ?_
            show Steps p.tables e below (s₁.setTop (mkF m 69 #[.val (.int p1), .val (.int (29 : Int32))] [])) _
            refine XS.iloadN X0.here hx rfl (hb hby d4_69) rfl ?_
            show Steps p.tables e below (s₁.setTop (mkF m 70 #[.val (.int p1), .val (.int (29 : Int32))] [(.int p1)])) _
            refine XS.iconst X0.here hx rfl (hb hby d4_70) ?_
            show Steps p.tables e below (s₁.setTop (mkF m 71 #[.val (.int p1), .val (.int (29 : Int32))] [(.int (2 : Int32)), (.int p1)])) _
            refine XS.iushr X0.here hx rfl (hb hby d4_71) rfl ?_
            show Steps p.tables e below (s₁.setTop (mkF m 72 #[.val (.int p1), .val (.int (29 : Int32))] [(.int ((p1.toUInt32 >>> ((2 : Int32) &&& 31).toUInt32).toInt32))])) _
            refine XS.istoreN X0.here hx rfl (hb hby d4_72) rfl (l' := #[.val (.int ((p1.toUInt32 >>> ((2 : Int32) &&& 31).toUInt32).toInt32)), .val (.int (29 : Int32))]) rfl ?_
            show Steps p.tables e below (s₁.setTop (mkF m 73 #[.val (.int ((p1.toUInt32 >>> ((2 : Int32) &&& 31).toUInt32).toInt32)), .val (.int (29 : Int32))] [])) _
            refine XS.iloadN X0.here hx rfl (hb hby d4_73) rfl ?_
            show Steps p.tables e below (s₁.setTop (mkF m 74 #[.val (.int ((p1.toUInt32 >>> ((2 : Int32) &&& 31).toUInt32).toInt32)), .val (.int (29 : Int32))] [(.int (29 : Int32))])) _
            refine XS.iloadN X0.here hx rfl (hb hby d4_74) rfl ?_
            show Steps p.tables e below (s₁.setTop (mkF m 75 #[.val (.int ((p1.toUInt32 >>> ((2 : Int32) &&& 31).toUInt32).toInt32)), .val (.int (29 : Int32))] [(.int ((p1.toUInt32 >>> ((2 : Int32) &&& 31).toUInt32).toInt32)), (.int (29 : Int32))])) _
            refine XS.iconst X0.here hx rfl (hb hby d4_75) ?_
            show Steps p.tables e below (s₁.setTop (mkF m 76 #[.val (.int ((p1.toUInt32 >>> ((2 : Int32) &&& 31).toUInt32).toInt32)), .val (.int (29 : Int32))] [(.int (1 : Int32)), (.int ((p1.toUInt32 >>> ((2 : Int32) &&& 31).toUInt32).toInt32)), (.int (29 : Int32))])) _
            refine XS.iushr X0.here hx rfl (hb hby d4_76) rfl ?_
            show Steps p.tables e below (s₁.setTop (mkF m 77 #[.val (.int ((p1.toUInt32 >>> ((2 : Int32) &&& 31).toUInt32).toInt32)), .val (.int (29 : Int32))] [(.int ((((p1.toUInt32 >>> ((2 : Int32) &&& 31).toUInt32).toInt32).toUInt32 >>> ((1 : Int32) &&& 31).toUInt32).toInt32)), (.int (29 : Int32))])) _
            refine XS.isub X0.here hx rfl (hb hby d4_77) rfl ?_
            show Steps p.tables e below (s₁.setTop (mkF m 78 #[.val (.int ((p1.toUInt32 >>> ((2 : Int32) &&& 31).toUInt32).toInt32)), .val (.int (29 : Int32))] [(.int ((29 : Int32) - ((((p1.toUInt32 >>> ((2 : Int32) &&& 31).toUInt32).toInt32).toUInt32 >>> ((1 : Int32) &&& 31).toUInt32).toInt32)))])) _
            exact retI X0 hx Bd.returns (hb hby d4_78) hr
          · show Q_4 Z p1 r h0 n0 _ s₁.heap _
            rw [e0]
            exact ⟨by rw [← hsp]; unfold own_n0; rw [if_pos hc4]; unfold own_n1; rw [if_pos hc6]; unfold own_n2; rw [if_pos hc8]; unfold own_n3; rw [if_neg hc10]; rfl, N0, rfl⟩
      · skip
        have pw11 : ∀ t, Steps p.tables e below (s₁.setTop (mkF m 63 #[.val (.int ((p1.toUInt32 >>> ((4 : Int32) &&& 31).toUInt32).toInt32)), .val (.int (27 : Int32))] [(.int (4 : Int32)), (.int ((p1.toUInt32 >>> ((4 : Int32) &&& 31).toUInt32).toInt32))])) t → Steps p.tables e below (s₁.setTop (entryFrame m #[(.int p1)] 2)) t := by
          intro t k
          refine pw7 t ?_
          refine XS.icmpNo X0.here hx rfl (hb hby d4_51) rfl (flt hc8).1 ?_
          show Steps p.tables e below (s₁.setTop (mkF m 54 #[.val (.int p1), .val (.int (31 : Int32))] [])) _
          refine XS.iinc X0.here hx rfl (hb hby d4_54) rfl (l' := #[.val (.int p1), .val (.int (27 : Int32))]) rfl ?_
          show Steps p.tables e below (s₁.setTop (mkF m 57 #[.val (.int p1), .val (.int (27 : Int32))] [])) _
          refine XS.iloadN X0.here hx rfl (hb hby d4_57) rfl ?_
          show Steps p.tables e below (s₁.setTop (mkF m 58 #[.val (.int p1), .val (.int (27 : Int32))] [(.int p1)])) _
          refine XS.iconst X0.here hx rfl (hb hby d4_58) ?_
          show Steps p.tables e below (s₁.setTop (mkF m 59 #[.val (.int p1), .val (.int (27 : Int32))] [(.int (4 : Int32)), (.int p1)])) _
          refine XS.iushr X0.here hx rfl (hb hby d4_59) rfl ?_
          show Steps p.tables e below (s₁.setTop (mkF m 60 #[.val (.int p1), .val (.int (27 : Int32))] [(.int ((p1.toUInt32 >>> ((4 : Int32) &&& 31).toUInt32).toInt32))])) _
          refine XS.istoreN X0.here hx rfl (hb hby d4_60) rfl (l' := #[.val (.int ((p1.toUInt32 >>> ((4 : Int32) &&& 31).toUInt32).toInt32)), .val (.int (27 : Int32))]) rfl ?_
          show Steps p.tables e below (s₁.setTop (mkF m 61 #[.val (.int ((p1.toUInt32 >>> ((4 : Int32) &&& 31).toUInt32).toInt32)), .val (.int (27 : Int32))] [])) _
          refine XS.iloadN X0.here hx rfl (hb hby d4_61) rfl ?_
          show Steps p.tables e below (s₁.setTop (mkF m 62 #[.val (.int ((p1.toUInt32 >>> ((4 : Int32) &&& 31).toUInt32).toInt32)), .val (.int (27 : Int32))] [(.int ((p1.toUInt32 >>> ((4 : Int32) &&& 31).toUInt32).toInt32))])) _
          refine XS.iconst X0.here hx rfl (hb hby d4_62) ?_
          show Steps p.tables e below (s₁.setTop (mkF m 63 #[.val (.int ((p1.toUInt32 >>> ((4 : Int32) &&& 31).toUInt32).toInt32)), .val (.int (27 : Int32))] [(.int (4 : Int32)), (.int ((p1.toUInt32 >>> ((4 : Int32) &&& 31).toUInt32).toInt32))])) _
          exact k
        by_cases hc12 : ((p1.toUInt32 >>> ((4 : Int32) &&& 31).toUInt32).toInt32) < (4 : Int32)
        · skip
          obtain ⟨fs, hr, hrun, hended, hW, hsame⟩ := X0.leave (v := some (.int ((27 : Int32) - ((((p1.toUInt32 >>> ((4 : Int32) &&& 31).toUInt32).toInt32).toUInt32 >>> ((1 : Int32) &&& 31).toUInt32).toInt32)))) (fun h => by rw [Bd.returns] at h; cases h)
          refine ⟨_, _, pw11 _ ?_, hrun, hended, _, _, rfl, ?_, ⟨_, rfl⟩, hW, hsame.mono (by decide) (by decide)⟩
          · skip
            refine XS.icmpYes X0.here hx rfl (pc0 := 63) (pc' := 73) rfl (hb hby d4_63) rfl (tlt hc12).1 (by decide) (by decide) ?_
            show Steps p.tables e below (s₁.setTop (mkF m 73 #[.val (.int ((p1.toUInt32 >>> ((4 : Int32) &&& 31).toUInt32).toInt32)), .val (.int (27 : Int32))] [])) _
            refine XS.iloadN X0.here hx rfl (hb hby d4_73) rfl ?_
            show Steps p.tables e below (s₁.setTop (mkF m 74 #[.val (.int ((p1.toUInt32 >>> ((4 : Int32) &&& 31).toUInt32).toInt32)), .val (.int (27 : Int32))] [(.int (27 : Int32))])) _
            refine XS.iloadN X0.here hx rfl (hb hby d4_74) rfl ?_
            show Steps p.tables e below (s₁.setTop (mkF m 75 #[.val (.int ((p1.toUInt32 >>> ((4 : Int32) &&& 31).toUInt32).toInt32)), .val (.int (27 : Int32))] [(.int ((p1.toUInt32 >>> ((4 : Int32) &&& 31).toUInt32).toInt32)), (.int (27 : Int32))])) _
            refine XS.iconst X0.here hx rfl (hb hby d4_75) ?_
            show Steps p.tables e below (s₁.setTop (mkF m 76 #[.val (.int ((p1.toUInt32 >>> ((4 : Int32) &&& 31).toUInt32).toInt32)), .val (.int (27 : Int32))] [(.int (1 : Int32)), (.int ((p1.toUInt32 >>> ((4 : Int32) &&& 31).toUInt32).toInt32)), (.int (27 : Int32))])) _
            refine XS.iushr X0.here hx rfl (hb hby d4_76) rfl ?_
            show Steps p.tables e below (s₁.setTop (mkF m 77 #[.val (.int ((p1.toUInt32 >>> ((4 : Int32) &&& 31).toUInt32).toInt32)), .val (.int (27 : Int32))] [(.int ((((p1.toUInt32 >>> ((4 : Int32) &&& 31).toUInt32).toInt32).toUInt32 >>> ((1 : Int32) &&& 31).toUInt32).toInt32)), (.int (27 : Int32))])) _
            refine XS.isub X0.here hx rfl (hb hby d4_77) rfl ?_
            show Steps p.tables e below (s₁.setTop (mkF m 78 #[.val (.int ((p1.toUInt32 >>> ((4 : Int32) &&& 31).toUInt32).toInt32)), .val (.int (27 : Int32))] [(.int ((27 : Int32) - ((((p1.toUInt32 >>> ((4 : Int32) &&& 31).toUInt32).toInt32).toUInt32 >>> ((1 : Int32) &&& 31).toUInt32).toInt32)))])) _
            exact retI X0 hx Bd.returns (hb hby d4_78) hr
          · show Q_4 Z p1 r h0 n0 _ s₁.heap _
            rw [e0]
            exact ⟨by rw [← hsp]; unfold own_n0; rw [if_pos hc4]; unfold own_n1; rw [if_pos hc6]; unfold own_n2; rw [if_neg hc8]; unfold own_n3; rw [if_pos hc12]; rfl, N0, rfl⟩
        · skip
          obtain ⟨fs, hr, hrun, hended, hW, hsame⟩ := X0.leave (v := some (.int ((25 : Int32) - ((((((p1.toUInt32 >>> ((4 : Int32) &&& 31).toUInt32).toInt32).toUInt32 >>> ((2 : Int32) &&& 31).toUInt32).toInt32).toUInt32 >>> ((1 : Int32) &&& 31).toUInt32).toInt32)))) (fun h => by rw [Bd.returns] at h; cases h)
          refine ⟨_, _, pw11 _ ?_, hrun, hended, _, _, rfl, ?_, ⟨_, rfl⟩, hW, hsame.mono (by decide) (by decide)⟩
          · skip
            refine XS.icmpNo X0.here hx rfl (hb hby d4_63) rfl (flt hc12).1 ?_
            show Steps p.tables e below (s₁.setTop (mkF m 66 #[.val (.int ((p1.toUInt32 >>> ((4 : Int32) &&& 31).toUInt32).toInt32)), .val (.int (27 : Int32))] [])) _
            refine XS.iinc X0.here hx rfl (hb hby d4_66) rfl (l' := #[.val (.int ((p1.toUInt32 >>> ((4 : Int32) &&& 31).toUInt32).toInt32)), .val (.int (25 : Int32))]) rfl ?_
            show Steps p.tables e below (s₁.setTop (mkF m 69 #[.val (.int ((p1.toUInt32 >>> ((4 : Int32) &&& 31).toUInt32).toInt32)), .val (.int (25 : Int32))] [])) _
            refine XS.iloadN X0.here hx rfl (hb hby d4_69) rfl ?_
            show Steps p.tables e below (s₁.setTop (mkF m 70 #[.val (.int ((p1.toUInt32 >>> ((4 : Int32) &&& 31).toUInt32).toInt32)), .val (.int (25 : Int32))] [(.int ((p1.toUInt32 >>> ((4 : Int32) &&& 31).toUInt32).toInt32))])) _
            refine XS.iconst X0.here hx rfl (hb hby d4_70) ?_
            show Steps p.tables e below (s₁.setTop (mkF m 71 #[.val (.int ((p1.toUInt32 >>> ((4 : Int32) &&& 31).toUInt32).toInt32)), .val (.int (25 : Int32))] [(.int (2 : Int32)), (.int ((p1.toUInt32 >>> ((4 : Int32) &&& 31).toUInt32).toInt32))])) _
            refine XS.iushr X0.here hx rfl (hb hby d4_71) rfl ?_
            show Steps p.tables e below (s₁.setTop (mkF m 72 #[.val (.int ((p1.toUInt32 >>> ((4 : Int32) &&& 31).toUInt32).toInt32)), .val (.int (25 : Int32))] [(.int ((((p1.toUInt32 >>> ((4 : Int32) &&& 31).toUInt32).toInt32).toUInt32 >>> ((2 : Int32) &&& 31).toUInt32).toInt32))])) _
            refine XS.istoreN X0.here hx rfl (hb hby d4_72) rfl (l' := #[.val (.int ((((p1.toUInt32 >>> ((4 : Int32) &&& 31).toUInt32).toInt32).toUInt32 >>> ((2 : Int32) &&& 31).toUInt32).toInt32)), .val (.int (25 : Int32))]) rfl ?_
            show Steps p.tables e below (s₁.setTop (mkF m 73 #[.val (.int ((((p1.toUInt32 >>> ((4 : Int32) &&& 31).toUInt32).toInt32).toUInt32 >>> ((2 : Int32) &&& 31).toUInt32).toInt32)), .val (.int (25 : Int32))] [])) _
            refine XS.iloadN X0.here hx rfl (hb hby d4_73) rfl ?_
            show Steps p.tables e below (s₁.setTop (mkF m 74 #[.val (.int ((((p1.toUInt32 >>> ((4 : Int32) &&& 31).toUInt32).toInt32).toUInt32 >>> ((2 : Int32) &&& 31).toUInt32).toInt32)), .val (.int (25 : Int32))] [(.int (25 : Int32))])) _
            refine XS.iloadN X0.here hx rfl (hb hby d4_74) rfl ?_
            show Steps p.tables e below (s₁.setTop (mkF m 75 #[.val (.int ((((p1.toUInt32 >>> ((4 : Int32) &&& 31).toUInt32).toInt32).toUInt32 >>> ((2 : Int32) &&& 31).toUInt32).toInt32)), .val (.int (25 : Int32))] [(.int ((((p1.toUInt32 >>> ((4 : Int32) &&& 31).toUInt32).toInt32).toUInt32 >>> ((2 : Int32) &&& 31).toUInt32).toInt32)), (.int (25 : Int32))])) _
            refine XS.iconst X0.here hx rfl (hb hby d4_75) ?_
            show Steps p.tables e below (s₁.setTop (mkF m 76 #[.val (.int ((((p1.toUInt32 >>> ((4 : Int32) &&& 31).toUInt32).toInt32).toUInt32 >>> ((2 : Int32) &&& 31).toUInt32).toInt32)), .val (.int (25 : Int32))] [(.int (1 : Int32)), (.int ((((p1.toUInt32 >>> ((4 : Int32) &&& 31).toUInt32).toInt32).toUInt32 >>> ((2 : Int32) &&& 31).toUInt32).toInt32)), (.int (25 : Int32))])) _
            refine XS.iushr X0.here hx rfl (hb hby d4_76) rfl ?_
            show Steps p.tables e below (s₁.setTop (mkF m 77 #[.val (.int ((((p1.toUInt32 >>> ((4 : Int32) &&& 31).toUInt32).toInt32).toUInt32 >>> ((2 : Int32) &&& 31).toUInt32).toInt32)), .val (.int (25 : Int32))] [(.int ((((((p1.toUInt32 >>> ((4 : Int32) &&& 31).toUInt32).toInt32).toUInt32 >>> ((2 : Int32) &&& 31).toUInt32).toInt32).toUInt32 >>> ((1 : Int32) &&& 31).toUInt32).toInt32)), (.int (25 : Int32))])) _
            refine XS.isub X0.here hx rfl (hb hby d4_77) rfl ?_
            show Steps p.tables e below (s₁.setTop (mkF m 78 #[.val (.int ((((p1.toUInt32 >>> ((4 : Int32) &&& 31).toUInt32).toInt32).toUInt32 >>> ((2 : Int32) &&& 31).toUInt32).toInt32)), .val (.int (25 : Int32))] [(.int ((25 : Int32) - ((((((p1.toUInt32 >>> ((4 : Int32) &&& 31).toUInt32).toInt32).toUInt32 >>> ((2 : Int32) &&& 31).toUInt32).toInt32).toUInt32 >>> ((1 : Int32) &&& 31).toUInt32).toInt32)))])) _
            exact retI X0 hx Bd.returns (hb hby d4_78) hr
          · show Q_4 Z p1 r h0 n0 _ s₁.heap _
            rw [e0]
            exact ⟨by rw [← hsp]; unfold own_n0; rw [if_pos hc4]; unfold own_n1; rw [if_pos hc6]; unfold own_n2; rw [if_neg hc8]; unfold own_n3; rw [if_neg hc12]; rfl, N0, rfl⟩
    · skip
      have pw13 : ∀ t, Steps p.tables e below (s₁.setTop (mkF m 51 #[.val (.int ((p1.toUInt32 >>> ((8 : Int32) &&& 31).toUInt32).toInt32)), .val (.int (23 : Int32))] [(.int (16 : Int32)), (.int ((p1.toUInt32 >>> ((8 : Int32) &&& 31).toUInt32).toInt32))])) t → Steps p.tables e below (s₁.setTop (entryFrame m #[(.int p1)] 2)) t := by
        intro t k
        refine pw5 t ?_
        refine XS.icmpNo X0.here hx rfl (hb hby d4_37) rfl (flt hc6).1 ?_
        show Steps p.tables e below (s₁.setTop (mkF m 40 #[.val (.int p1), .val (.int (31 : Int32))] [])) _
        refine XS.iinc X0.here hx rfl (hb hby d4_40) rfl (l' := #[.val (.int p1), .val (.int (23 : Int32))]) rfl ?_
        show Steps p.tables e below (s₁.setTop (mkF m 43 #[.val (.int p1), .val (.int (23 : Int32))] [])) _
        refine XS.iloadN X0.here hx rfl (hb hby d4_43) rfl ?_
        show Steps p.tables e below (s₁.setTop (mkF m 44 #[.val (.int p1), .val (.int (23 : Int32))] [(.int p1)])) _
        refine XS.bipush X0.here hx rfl (hb hby d4_44) ?_
        show Steps p.tables e below (s₁.setTop (mkF m 46 #[.val (.int p1), .val (.int (23 : Int32))] [(.int (8 : Int32)), (.int p1)])) _
        refine XS.iushr X0.here hx rfl (hb hby d4_46) rfl ?_
        show Steps p.tables e below (s₁.setTop (mkF m 47 #[.val (.int p1), .val (.int (23 : Int32))] [(.int ((p1.toUInt32 >>> ((8 : Int32) &&& 31).toUInt32).toInt32))])) _
        refine XS.istoreN X0.here hx rfl (hb hby d4_47) rfl (l' := #[.val (.int ((p1.toUInt32 >>> ((8 : Int32) &&& 31).toUInt32).toInt32)), .val (.int (23 : Int32))]) rfl ?_
        show Steps p.tables e below (s₁.setTop (mkF m 48 #[.val (.int ((p1.toUInt32 >>> ((8 : Int32) &&& 31).toUInt32).toInt32)), .val (.int (23 : Int32))] [])) _
        refine XS.iloadN X0.here hx rfl (hb hby d4_48) rfl ?_
        show Steps p.tables e below (s₁.setTop (mkF m 49 #[.val (.int ((p1.toUInt32 >>> ((8 : Int32) &&& 31).toUInt32).toInt32)), .val (.int (23 : Int32))] [(.int ((p1.toUInt32 >>> ((8 : Int32) &&& 31).toUInt32).toInt32))])) _
        refine XS.bipush X0.here hx rfl (hb hby d4_49) ?_
        show Steps p.tables e below (s₁.setTop (mkF m 51 #[.val (.int ((p1.toUInt32 >>> ((8 : Int32) &&& 31).toUInt32).toInt32)), .val (.int (23 : Int32))] [(.int (16 : Int32)), (.int ((p1.toUInt32 >>> ((8 : Int32) &&& 31).toUInt32).toInt32))])) _
        exact k
      by_cases hc14 : ((p1.toUInt32 >>> ((8 : Int32) &&& 31).toUInt32).toInt32) < (16 : Int32)
      · skip
        have pw15 : ∀ t, Steps p.tables e below (s₁.setTop (mkF m 63 #[.val (.int ((p1.toUInt32 >>> ((8 : Int32) &&& 31).toUInt32).toInt32)), .val (.int (23 : Int32))] [(.int (4 : Int32)), (.int ((p1.toUInt32 >>> ((8 : Int32) &&& 31).toUInt32).toInt32))])) t → Steps p.tables e below (s₁.setTop (entryFrame m #[(.int p1)] 2)) t := by
          intro t k
          refine pw13 t ?_
          refine XS.icmpYes X0.here hx rfl (pc0 := 51) (pc' := 61) rfl (hb hby d4_51) rfl (tlt hc14).1 (by decide) (by decide) ?_
          show Steps p.tables e below (s₁.setTop (mkF m 61 #[.val (.int ((p1.toUInt32 >>> ((8 : Int32) &&& 31).toUInt32).toInt32)), .val (.int (23 : Int32))] [])) _
          refine XS.iloadN X0.here hx rfl (hb hby d4_61) rfl ?_
          show Steps p.tables e below (s₁.setTop (mkF m 62 #[.val (.int ((p1.toUInt32 >>> ((8 : Int32) &&& 31).toUInt32).toInt32)), .val (.int (23 : Int32))] [(.int ((p1.toUInt32 >>> ((8 : Int32) &&& 31).toUInt32).toInt32))])) _
          refine XS.iconst X0.here hx rfl (hb hby d4_62) ?_
          show Steps p.tables e below (s₁.setTop (mkF m 63 #[.val (.int ((p1.toUInt32 >>> ((8 : Int32) &&& 31).toUInt32).toInt32)), .val (.int (23 : Int32))] [(.int (4 : Int32)), (.int ((p1.toUInt32 >>> ((8 : Int32) &&& 31).toUInt32).toInt32))])) _
          exact k
        by_cases hc16 : ((p1.toUInt32 >>> ((8 : Int32) &&& 31).toUInt32).toInt32) < (4 : Int32)
        · skip
          obtain ⟨fs, hr, hrun, hended, hW, hsame⟩ := X0.leave (v := some (.int ((23 : Int32) - ((((p1.toUInt32 >>> ((8 : Int32) &&& 31).toUInt32).toInt32).toUInt32 >>> ((1 : Int32) &&& 31).toUInt32).toInt32)))) (fun h => by rw [Bd.returns] at h; cases h)
          refine ⟨_, _, pw15 _ ?_, hrun, hended, _, _, rfl, ?_, ⟨_, rfl⟩, hW, hsame.mono (by decide) (by decide)⟩
          · skip
            refine XS.icmpYes X0.here hx rfl (pc0 := 63) (pc' := 73) rfl (hb hby d4_63) rfl (tlt hc16).1 (by decide) (by decide) ?_
            show Steps p.tables e below (s₁.setTop (mkF m 73 #[.val (.int ((p1.toUInt32 >>> ((8 : Int32) &&& 31).toUInt32).toInt32)), .val (.int (23 : Int32))] [])) _
            refine XS.iloadN X0.here hx rfl (hb hby d4_73) rfl ?_
            show Steps p.tables e below (s₁.setTop (mkF m 74 #[.val (.int ((p1.toUInt32 >>> ((8 : Int32) &&& 31).toUInt32).toInt32)), .val (.int (23 : Int32))] [(.int (23 : Int32))])) _
            refine XS.iloadN X0.here hx rfl (hb hby d4_74) rfl ?_
            show Steps p.tables e below (s₁.setTop (mkF m 75 #[.val (.int ((p1.toUInt32 >>> ((8 : Int32) &&& 31).toUInt32).toInt32)), .val (.int (23 : Int32))] [(.int ((p1.toUInt32 >>> ((8 : Int32) &&& 31).toUInt32).toInt32)), (.int (23 : Int32))])) _
            refine XS.iconst X0.here hx rfl (hb hby d4_75) ?_
            show Steps p.tables e below (s₁.setTop (mkF m 76 #[.val (.int ((p1.toUInt32 >>> ((8 : Int32) &&& 31).toUInt32).toInt32)), .val (.int (23 : Int32))] [(.int (1 : Int32)), (.int ((p1.toUInt32 >>> ((8 : Int32) &&& 31).toUInt32).toInt32)), (.int (23 : Int32))])) _
            refine XS.iushr X0.here hx rfl (hb hby d4_76) rfl ?_
            show Steps p.tables e below (s₁.setTop (mkF m 77 #[.val (.int ((p1.toUInt32 >>> ((8 : Int32) &&& 31).toUInt32).toInt32)), .val (.int (23 : Int32))] [(.int ((((p1.toUInt32 >>> ((8 : Int32) &&& 31).toUInt32).toInt32).toUInt32 >>> ((1 : Int32) &&& 31).toUInt32).toInt32)), (.int (23 : Int32))])) _
            refine XS.isub X0.here hx rfl (hb hby d4_77) rfl ?_
            show Steps p.tables e below (s₁.setTop (mkF m 78 #[.val (.int ((p1.toUInt32 >>> ((8 : Int32) &&& 31).toUInt32).toInt32)), .val (.int (23 : Int32))] [(.int ((23 : Int32) - ((((p1.toUInt32 >>> ((8 : Int32) &&& 31).toUInt32).toInt32).toUInt32 >>> ((1 : Int32) &&& 31).toUInt32).toInt32)))])) _
            exact retI X0 hx Bd.returns (hb hby d4_78) hr
          · show Q_4 Z p1 r h0 n0 _ s₁.heap _
            rw [e0]
            exact ⟨by rw [← hsp]; unfold own_n0; rw [if_pos hc4]; unfold own_n1; rw [if_neg hc6]; unfold own_n2; rw [if_pos hc14]; unfold own_n3; rw [if_pos hc16]; rfl, N0, rfl⟩
        · skip
          obtain ⟨fs, hr, hrun, hended, hW, hsame⟩ := X0.leave (v := some (.int ((21 : Int32) - ((((((p1.toUInt32 >>> ((8 : Int32) &&& 31).toUInt32).toInt32).toUInt32 >>> ((2 : Int32) &&& 31).toUInt32).toInt32).toUInt32 >>> ((1 : Int32) &&& 31).toUInt32).toInt32)))) (fun h => by rw [Bd.returns] at h; cases h)
          refine ⟨_, _, pw15 _ ?_, hrun, hended, _, _, rfl, ?_, ⟨_, rfl⟩, hW, hsame.mono (by decide) (by decide)⟩
          · skip
            refine XS.icmpNo X0.here hx rfl (hb hby d4_63) rfl (flt hc16).1 ?_
            show Steps p.tables e below (s₁.setTop (mkF m 66 #[.val (.int ((p1.toUInt32 >>> ((8 : Int32) &&& 31).toUInt32).toInt32)), .val (.int (23 : Int32))] [])) _
            refine XS.iinc X0.here hx rfl (hb hby d4_66) rfl (l' := #[.val (.int ((p1.toUInt32 >>> ((8 : Int32) &&& 31).toUInt32).toInt32)), .val (.int (21 : Int32))]) rfl ?_
            show Steps p.tables e below (s₁.setTop (mkF m 69 #[.val (.int ((p1.toUInt32 >>> ((8 : Int32) &&& 31).toUInt32).toInt32)), .val (.int (21 : Int32))] [])) _
            refine XS.iloadN X0.here hx rfl (hb hby d4_69) rfl ?_
            show Steps p.tables e below (s₁.setTop (mkF m 70 #[.val (.int ((p1.toUInt32 >>> ((8 : Int32) &&& 31).toUInt32).toInt32)), .val (.int (21 : Int32))] [(.int ((p1.toUInt32 >>> ((8 : Int32) &&& 31).toUInt32).toInt32))])) _
            refine XS.iconst X0.here hx rfl (hb hby d4_70) ?_
            show Steps p.tables e below (s₁.setTop (mkF m 71 #[.val (.int ((p1.toUInt32 >>> ((8 : Int32) &&& 31).toUInt32).toInt32)), .val (.int (21 : Int32))] [(.int (2 : Int32)), (.int ((p1.toUInt32 >>> ((8 : Int32) &&& 31).toUInt32).toInt32))])) _
            refine XS.iushr X0.here hx rfl (hb hby d4_71) rfl ?_
            show Steps p.tables e below (s₁.setTop (mkF m 72 #[.val (.int ((p1.toUInt32 >>> ((8 : Int32) &&& 31).toUInt32).toInt32)), .val (.int (21 : Int32))] [(.int ((((p1.toUInt32 >>> ((8 : Int32) &&& 31).toUInt32).toInt32).toUInt32 >>> ((2 : Int32) &&& 31).toUInt32).toInt32))])) _
            refine XS.istoreN X0.here hx rfl (hb hby d4_72) rfl (l' := #[.val (.int ((((p1.toUInt32 >>> ((8 : Int32) &&& 31).toUInt32).toInt32).toUInt32 >>> ((2 : Int32) &&& 31).toUInt32).toInt32)), .val (.int (21 : Int32))]) rfl ?_
            show Steps p.tables e below (s₁.setTop (mkF m 73 #[.val (.int ((((p1.toUInt32 >>> ((8 : Int32) &&& 31).toUInt32).toInt32).toUInt32 >>> ((2 : Int32) &&& 31).toUInt32).toInt32)), .val (.int (21 : Int32))] [])) _
            refine XS.iloadN X0.here hx rfl (hb hby d4_73) rfl ?_
            show Steps p.tables e below (s₁.setTop (mkF m 74 #[.val (.int ((((p1.toUInt32 >>> ((8 : Int32) &&& 31).toUInt32).toInt32).toUInt32 >>> ((2 : Int32) &&& 31).toUInt32).toInt32)), .val (.int (21 : Int32))] [(.int (21 : Int32))])) _
            refine XS.iloadN X0.here hx rfl (hb hby d4_74) rfl ?_
            show Steps p.tables e below (s₁.setTop (mkF m 75 #[.val (.int ((((p1.toUInt32 >>> ((8 : Int32) &&& 31).toUInt32).toInt32).toUInt32 >>> ((2 : Int32) &&& 31).toUInt32).toInt32)), .val (.int (21 : Int32))] [(.int ((((p1.toUInt32 >>> ((8 : Int32) &&& 31).toUInt32).toInt32).toUInt32 >>> ((2 : Int32) &&& 31).toUInt32).toInt32)), (.int (21 : Int32))])) _
            refine XS.iconst X0.here hx rfl (hb hby d4_75) ?_
            show Steps p.tables e below (s₁.setTop (mkF m 76 #[.val (.int ((((p1.toUInt32 >>> ((8 : Int32) &&& 31).toUInt32).toInt32).toUInt32 >>> ((2 : Int32) &&& 31).toUInt32).toInt32)), .val (.int (21 : Int32))] [(.int (1 : Int32)), (.int ((((p1.toUInt32 >>> ((8 : Int32) &&& 31).toUInt32).toInt32).toUInt32 >>> ((2 : Int32) &&& 31).toUInt32).toInt32)), (.int (21 : Int32))])) _
            refine XS.iushr X0.here hx rfl (hb hby d4_76) rfl ?_
            show Steps p.tables e below (s₁.setTop (mkF m 77 #[.val (.int ((((p1.toUInt32 >>> ((8 : Int32) &&& 31).toUInt32).toInt32).toUInt32 >>> ((2 : Int32) &&& 31).toUInt32).toInt32)), .val (.int (21 : Int32))] [(.int ((((((p1.toUInt32 >>> ((8 : Int32) &&& 31).toUInt32).toInt32).toUInt32 >>> ((2 : Int32) &&& 31).toUInt32).toInt32).toUInt32 >>> ((1 : Int32) &&& 31).toUInt32).toInt32)), (.int (21 : Int32))])) _
            refine XS.isub X0.here hx rfl (hb hby d4_77) rfl ?_
            show Steps p.tables e below (s₁.setTop (mkF m 78 #[.val (.int ((((p1.toUInt32 >>> ((8 : Int32) &&& 31).toUInt32).toInt32).toUInt32 >>> ((2 : Int32) &&& 31).toUInt32).toInt32)), .val (.int (21 : Int32))] [(.int ((21 : Int32) - ((((((p1.toUInt32 >>> ((8 : Int32) &&& 31).toUInt32).toInt32).toUInt32 >>> ((2 : Int32) &&& 31).toUInt32).toInt32).toUInt32 >>> ((1 : Int32) &&& 31).toUInt32).toInt32)))])) _
            exact retI X0 hx Bd.returns (hb hby d4_78) hr
          · show Q_4 Z p1 r h0 n0 _ s₁.heap _
            rw [e0]
            exact ⟨by rw [← hsp]; unfold own_n0; rw [if_pos hc4]; unfold own_n1; rw [if_neg hc6]; unfold own_n2; rw [if_pos hc14]; unfold own_n3; rw [if_neg hc16]; rfl, N0, rfl⟩
      · skip
        have pw17 : ∀ t, Steps p.tables e below (s₁.setTop (mkF m 63 #[.val (.int ((((p1.toUInt32 >>> ((8 : Int32) &&& 31).toUInt32).toInt32).toUInt32 >>> ((4 : Int32) &&& 31).toUInt32).toInt32)), .val (.int (19 : Int32))] [(.int (4 : Int32)), (.int ((((p1.toUInt32 >>> ((8 : Int32) &&& 31).toUInt32).toInt32).toUInt32 >>> ((4 : Int32) &&& 31).toUInt32).toInt32))])) t → Steps p.tables e below (s₁.setTop (entryFrame m #[(.int p1)] 2)) t := by
          intro t k
          refine pw13 t ?_
          refine XS.icmpNo X0.here hx rfl (hb hby d4_51) rfl (flt hc14).1 ?_
          show Steps p.tables e below (s₁.setTop (mkF m 54 #[.val (.int ((p1.toUInt32 >>> ((8 : Int32) &&& 31).toUInt32).toInt32)), .val (.int (23 : Int32))] [])) _
          refine XS.iinc X0.here hx rfl (hb hby d4_54) rfl (l' := #[.val (.int ((p1.toUInt32 >>> ((8 : Int32) &&& 31).toUInt32).toInt32)), .val (.int (19 : Int32))]) rfl ?_
          show Steps p.tables e below (s₁.setTop (mkF m 57 #[.val (.int ((p1.toUInt32 >>> ((8 : Int32) &&& 31).toUInt32).toInt32)), .val (.int (19 : Int32))] [])) _
          refine XS.iloadN X0.here hx rfl (hb hby d4_57) rfl ?_
          show Steps p.tables e below (s₁.setTop (mkF m 58 #[.val (.int ((p1.toUInt32 >>> ((8 : Int32) &&& 31).toUInt32).toInt32)), .val (.int (19 : Int32))] [(.int ((p1.toUInt32 >>> ((8 : Int32) &&& 31).toUInt32).toInt32))])) _
          refine XS.iconst X0.here hx rfl (hb hby d4_58) ?_
          show Steps p.tables e below (s₁.setTop (mkF m 59 #[.val (.int ((p1.toUInt32 >>> ((8 : Int32) &&& 31).toUInt32).toInt32)), .val (.int (19 : Int32))] [(.int (4 : Int32)), (.int ((p1.toUInt32 >>> ((8 : Int32) &&& 31).toUInt32).toInt32))])) _
          refine XS.iushr X0.here hx rfl (hb hby d4_59) rfl ?_
          show Steps p.tables e below (s₁.setTop (mkF m 60 #[.val (.int ((p1.toUInt32 >>> ((8 : Int32) &&& 31).toUInt32).toInt32)), .val (.int (19 : Int32))] [(.int ((((p1.toUInt32 >>> ((8 : Int32) &&& 31).toUInt32).toInt32).toUInt32 >>> ((4 : Int32) &&& 31).toUInt32).toInt32))])) _
          refine XS.istoreN X0.here hx rfl (hb hby d4_60) rfl (l' := #[.val (.int ((((p1.toUInt32 >>> ((8 : Int32) &&& 31).toUInt32).toInt32).toUInt32 >>> ((4 : Int32) &&& 31).toUInt32).toInt32)), .val (.int (19 : Int32))]) rfl ?_
          show Steps p.tables e below (s₁.setTop (mkF m 61 #[.val (.int ((((p1.toUInt32 >>> ((8 : Int32) &&& 31).toUInt32).toInt32).toUInt32 >>> ((4 : Int32) &&& 31).toUInt32).toInt32)), .val (.int (19 : Int32))] [])) _
          refine XS.iloadN X0.here hx rfl (hb hby d4_61) rfl ?_
          show Steps p.tables e below (s₁.setTop (mkF m 62 #[.val (.int ((((p1.toUInt32 >>> ((8 : Int32) &&& 31).toUInt32).toInt32).toUInt32 >>> ((4 : Int32) &&& 31).toUInt32).toInt32)), .val (.int (19 : Int32))] [(.int ((((p1.toUInt32 >>> ((8 : Int32) &&& 31).toUInt32).toInt32).toUInt32 >>> ((4 : Int32) &&& 31).toUInt32).toInt32))])) _
          refine XS.iconst X0.here hx rfl (hb hby d4_62) ?_
          show Steps p.tables e below (s₁.setTop (mkF m 63 #[.val (.int ((((p1.toUInt32 >>> ((8 : Int32) &&& 31).toUInt32).toInt32).toUInt32 >>> ((4 : Int32) &&& 31).toUInt32).toInt32)), .val (.int (19 : Int32))] [(.int (4 : Int32)), (.int ((((p1.toUInt32 >>> ((8 : Int32) &&& 31).toUInt32).toInt32).toUInt32 >>> ((4 : Int32) &&& 31).toUInt32).toInt32))])) _
          exact k
        by_cases hc18 : ((((p1.toUInt32 >>> ((8 : Int32) &&& 31).toUInt32).toInt32).toUInt32 >>> ((4 : Int32) &&& 31).toUInt32).toInt32) < (4 : Int32)
        · skip
          obtain ⟨fs, hr, hrun, hended, hW, hsame⟩ := X0.leave (v := some (.int ((19 : Int32) - ((((((p1.toUInt32 >>> ((8 : Int32) &&& 31).toUInt32).toInt32).toUInt32 >>> ((4 : Int32) &&& 31).toUInt32).toInt32).toUInt32 >>> ((1 : Int32) &&& 31).toUInt32).toInt32)))) (fun h => by rw [Bd.returns] at h; cases h)
          refine ⟨_, _, pw17 _ ?_, hrun, hended, _, _, rfl, ?_, ⟨_, rfl⟩, hW, hsame.mono (by decide) (by decide)⟩
          · skip
            refine XS.icmpYes X0.here hx rfl (pc0 := 63) (pc' := 73) rfl (hb hby d4_63) rfl (tlt hc18).1 (by decide) (by decide) ?_
            show Steps p.tables e below (s₁.setTop (mkF m 73 #[.val (.int ((((p1.toUInt32 >>> ((8 : Int32) &&& 31).toUInt32).toInt32).toUInt32 >>> ((4 : Int32) &&& 31).toUInt32).toInt32)), .val (.int (19 : Int32))] [])) _
            refine XS.iloadN X0.here hx rfl (hb hby d4_73) rfl ?_
            show Steps p.tables e below (s₁.setTop (mkF m 74 #[.val (.int ((((p1.toUInt32 >>> ((8 : Int32) &&& 31).toUInt32).toInt32).toUInt32 >>> ((4 : Int32) &&& 31).toUInt32).toInt32)), .val (.int (19 : Int32))] [(.int (19 : Int32))])) _
            refine XS.iloadN X0.here hx rfl (hb hby d4_74) rfl ?_
            show Steps p.tables e below (s₁.setTop (mkF m 75 #[.val (.int ((((p1.toUInt32 >>> ((8 : Int32) &&& 31).toUInt32).toInt32).toUInt32 >>> ((4 : Int32) &&& 31).toUInt32).toInt32)), .val (.int (19 : Int32))] [(.int ((((p1.toUInt32 >>> ((8 : Int32) &&& 31).toUInt32).toInt32).toUInt32 >>> ((4 : Int32) &&& 31).toUInt32).toInt32)), (.int (19 : Int32))])) _
            refine XS.iconst X0.here hx rfl (hb hby d4_75) ?_
            show Steps p.tables e below (s₁.setTop (mkF m 76 #[.val (.int ((((p1.toUInt32 >>> ((8 : Int32) &&& 31).toUInt32).toInt32).toUInt32 >>> ((4 : Int32) &&& 31).toUInt32).toInt32)), .val (.int (19 : Int32))] [(.int (1 : Int32)), (.int ((((p1.toUInt32 >>> ((8 : Int32) &&& 31).toUInt32).toInt32).toUInt32 >>> ((4 : Int32) &&& 31).toUInt32).toInt32)), (.int (19 : Int32))])) _
            refine XS.iushr X0.here hx rfl (hb hby d4_76) rfl ?_
            show Steps p.tables e below (s₁.setTop (mkF m 77 #[.val (.int ((((p1.toUInt32 >>> ((8 : Int32) &&& 31).toUInt32).toInt32).toUInt32 >>> ((4 : Int32) &&& 31).toUInt32).toInt32)), .val (.int (19 : Int32))] [(.int ((((((p1.toUInt32 >>> ((8 : Int32) &&& 31).toUInt32).toInt32).toUInt32 >>> ((4 : Int32) &&& 31).toUInt32).toInt32).toUInt32 >>> ((1 : Int32) &&& 31).toUInt32).toInt32)), (.int (19 : Int32))])) _
            refine XS.isub X0.here hx rfl (hb hby d4_77) rfl ?_
            show Steps p.tables e below (s₁.setTop (mkF m 78 #[.val (.int ((((p1.toUInt32 >>> ((8 : Int32) &&& 31).toUInt32).toInt32).toUInt32 >>> ((4 : Int32) &&& 31).toUInt32).toInt32)), .val (.int (19 : Int32))] [(.int ((19 : Int32) - ((((((p1.toUInt32 >>> ((8 : Int32) &&& 31).toUInt32).toInt32).toUInt32 >>> ((4 : Int32) &&& 31).toUInt32).toInt32).toUInt32 >>> ((1 : Int32) &&& 31).toUInt32).toInt32)))])) _
            exact retI X0 hx Bd.returns (hb hby d4_78) hr
          · show Q_4 Z p1 r h0 n0 _ s₁.heap _
            rw [e0]
            exact ⟨by rw [← hsp]; unfold own_n0; rw [if_pos hc4]; unfold own_n1; rw [if_neg hc6]; unfold own_n2; rw [if_neg hc14]; unfold own_n3; rw [if_pos hc18]; rfl, N0, rfl⟩
        · skip
          obtain ⟨fs, hr, hrun, hended, hW, hsame⟩ := X0.leave (v := some (.int ((17 : Int32) - ((((((((p1.toUInt32 >>> ((8 : Int32) &&& 31).toUInt32).toInt32).toUInt32 >>> ((4 : Int32) &&& 31).toUInt32).toInt32).toUInt32 >>> ((2 : Int32) &&& 31).toUInt32).toInt32).toUInt32 >>> ((1 : Int32) &&& 31).toUInt32).toInt32)))) (fun h => by rw [Bd.returns] at h; cases h)
          refine ⟨_, _, pw17 _ ?_, hrun, hended, _, _, rfl, ?_, ⟨_, rfl⟩, hW, hsame.mono (by decide) (by decide)⟩
          · skip
            refine XS.icmpNo X0.here hx rfl (hb hby d4_63) rfl (flt hc18).1 ?_
            show Steps p.tables e below (s₁.setTop (mkF m 66 #[.val (.int ((((p1.toUInt32 >>> ((8 : Int32) &&& 31).toUInt32).toInt32).toUInt32 >>> ((4 : Int32) &&& 31).toUInt32).toInt32)), .val (.int (19 : Int32))] [])) _
            refine XS.iinc X0.here hx rfl (hb hby d4_66) rfl (l' := #[.val (.int ((((p1.toUInt32 >>> ((8 : Int32) &&& 31).toUInt32).toInt32).toUInt32 >>> ((4 : Int32) &&& 31).toUInt32).toInt32)), .val (.int (17 : Int32))]) rfl ?_
            show Steps p.tables e below (s₁.setTop (mkF m 69 #[.val (.int ((((p1.toUInt32 >>> ((8 : Int32) &&& 31).toUInt32).toInt32).toUInt32 >>> ((4 : Int32) &&& 31).toUInt32).toInt32)), .val (.int (17 : Int32))] [])) _
            refine XS.iloadN X0.here hx rfl (hb hby d4_69) rfl ?_
            show Steps p.tables e below (s₁.setTop (mkF m 70 #[.val (.int ((((p1.toUInt32 >>> ((8 : Int32) &&& 31).toUInt32).toInt32).toUInt32 >>> ((4 : Int32) &&& 31).toUInt32).toInt32)), .val (.int (17 : Int32))] [(.int ((((p1.toUInt32 >>> ((8 : Int32) &&& 31).toUInt32).toInt32).toUInt32 >>> ((4 : Int32) &&& 31).toUInt32).toInt32))])) _
            refine XS.iconst X0.here hx rfl (hb hby d4_70) ?_
            show Steps p.tables e below (s₁.setTop (mkF m 71 #[.val (.int ((((p1.toUInt32 >>> ((8 : Int32) &&& 31).toUInt32).toInt32).toUInt32 >>> ((4 : Int32) &&& 31).toUInt32).toInt32)), .val (.int (17 : Int32))] [(.int (2 : Int32)), (.int ((((p1.toUInt32 >>> ((8 : Int32) &&& 31).toUInt32).toInt32).toUInt32 >>> ((4 : Int32) &&& 31).toUInt32).toInt32))])) _
            refine XS.iushr X0.here hx rfl (hb hby d4_71) rfl ?_
            show Steps p.tables e below (s₁.setTop (mkF m 72 #[.val (.int ((((p1.toUInt32 >>> ((8 : Int32) &&& 31).toUInt32).toInt32).toUInt32 >>> ((4 : Int32) &&& 31).toUInt32).toInt32)), .val (.int (17 : Int32))] [(.int ((((((p1.toUInt32 >>> ((8 : Int32) &&& 31).toUInt32).toInt32).toUInt32 >>> ((4 : Int32) &&& 31).toUInt32).toInt32).toUInt32 >>> ((2 : Int32) &&& 31).toUInt32).toInt32))])) _
            refine XS.istoreN X0.here hx rfl (hb hby d4_72) rfl (l' := #[.val (.int ((((((p1.toUInt32 >>> ((8 : Int32) &&& 31).toUInt32).toInt32).toUInt32 >>> ((4 : Int32) &&& 31).toUInt32).toInt32).toUInt32 >>> ((2 : Int32) &&& 31).toUInt32).toInt32)), .val (.int (17 : Int32))]) rfl ?_
            show Steps p.tables e below (s₁.setTop (mkF m 73 #[.val (.int ((((((p1.toUInt32 >>> ((8 : Int32) &&& 31).toUInt32).toInt32).toUInt32 >>> ((4 : Int32) &&& 31).toUInt32).toInt32).toUInt32 >>> ((2 : Int32) &&& 31).toUInt32).toInt32)), .val (.int (17 : Int32))] [])) _
            refine XS.iloadN X0.here hx rfl (hb hby d4_73) rfl ?_
            show Steps p.tables e below (s₁.setTop (mkF m 74 #[.val (.int ((((((p1.toUInt32 >>> ((8 : Int32) &&& 31).toUInt32).toInt32).toUInt32 >>> ((4 : Int32) &&& 31).toUInt32).toInt32).toUInt32 >>> ((2 : Int32) &&& 31).toUInt32).toInt32)), .val (.int (17 : Int32))] [(.int (17 : Int32))])) _
            refine XS.iloadN X0.here hx rfl (hb hby d4_74) rfl ?_
            show Steps p.tables e below (s₁.setTop (mkF m 75 #[.val (.int ((((((p1.toUInt32 >>> ((8 : Int32) &&& 31).toUInt32).toInt32).toUInt32 >>> ((4 : Int32) &&& 31).toUInt32).toInt32).toUInt32 >>> ((2 : Int32) &&& 31).toUInt32).toInt32)), .val (.int (17 : Int32))] [(.int ((((((p1.toUInt32 >>> ((8 : Int32) &&& 31).toUInt32).toInt32).toUInt32 >>> ((4 : Int32) &&& 31).toUInt32).toInt32).toUInt32 >>> ((2 : Int32) &&& 31).toUInt32).toInt32)), (.int (17 : Int32))])) _
            refine XS.iconst X0.here hx rfl (hb hby d4_75) ?_
            show Steps p.tables e below (s₁.setTop (mkF m 76 #[.val (.int ((((((p1.toUInt32 >>> ((8 : Int32) &&& 31).toUInt32).toInt32).toUInt32 >>> ((4 : Int32) &&& 31).toUInt32).toInt32).toUInt32 >>> ((2 : Int32) &&& 31).toUInt32).toInt32)), .val (.int (17 : Int32))] [(.int (1 : Int32)), (.int ((((((p1.toUInt32 >>> ((8 : Int32) &&& 31).toUInt32).toInt32).toUInt32 >>> ((4 : Int32) &&& 31).toUInt32).toInt32).toUInt32 >>> ((2 : Int32) &&& 31).toUInt32).toInt32)), (.int (17 : Int32))])) _
            refine XS.iushr X0.here hx rfl (hb hby d4_76) rfl ?_
            show Steps p.tables e below (s₁.setTop (mkF m 77 #[.val (.int ((((((p1.toUInt32 >>> ((8 : Int32) &&& 31).toUInt32).toInt32).toUInt32 >>> ((4 : Int32) &&& 31).toUInt32).toInt32).toUInt32 >>> ((2 : Int32) &&& 31).toUInt32).toInt32)), .val (.int (17 : Int32))] [(.int ((((((((p1.toUInt32 >>> ((8 : Int32) &&& 31).toUInt32).toInt32).toUInt32 >>> ((4 : Int32) &&& 31).toUInt32).toInt32).toUInt32 >>> ((2 : Int32) &&& 31).toUInt32).toInt32).toUInt32 >>> ((1 : Int32) &&& 31).toUInt32).toInt32)), (.int (17 : Int32))])) _
            refine XS.isub X0.here hx rfl (hb hby d4_77) rfl ?_
            show Steps p.tables e below (s₁.setTop (mkF m 78 #[.val (.int ((((((p1.toUInt32 >>> ((8 : Int32) &&& 31).toUInt32).toInt32).toUInt32 >>> ((4 : Int32) &&& 31).toUInt32).toInt32).toUInt32 >>> ((2 : Int32) &&& 31).toUInt32).toInt32)), .val (.int (17 : Int32))] [(.int ((17 : Int32) - ((((((((p1.toUInt32 >>> ((8 : Int32) &&& 31).toUInt32).toInt32).toUInt32 >>> ((4 : Int32) &&& 31).toUInt32).toInt32).toUInt32 >>> ((2 : Int32) &&& 31).toUInt32).toInt32).toUInt32 >>> ((1 : Int32) &&& 31).toUInt32).toInt32)))])) _
            exact retI X0 hx Bd.returns (hb hby d4_78) hr
          · show Q_4 Z p1 r h0 n0 _ s₁.heap _
            rw [e0]
            exact ⟨by rw [← hsp]; unfold own_n0; rw [if_pos hc4]; unfold own_n1; rw [if_neg hc6]; unfold own_n2; rw [if_neg hc14]; unfold own_n3; rw [if_neg hc18]; rfl, N0, rfl⟩
  · skip
    have pw19 : ∀ t, Steps p.tables e below (s₁.setTop (mkF m 37 #[.val (.int ((p1.toUInt32 >>> ((16 : Int32) &&& 31).toUInt32).toInt32)), .val (.int (15 : Int32))] [(.int (256 : Int32)), (.int ((p1.toUInt32 >>> ((16 : Int32) &&& 31).toUInt32).toInt32))])) t → Steps p.tables e below (s₁.setTop (entryFrame m #[(.int p1)] 2)) t := by
      intro t k
      refine pw3 t ?_
      refine XS.icmpNo X0.here hx rfl (hb hby d4_22) rfl (flt hc4).1 ?_
      show Steps p.tables e below (s₁.setTop (mkF m 25 #[.val (.int p1), .val (.int (31 : Int32))] [])) _
      refine XS.iinc X0.here hx rfl (hb hby d4_25) rfl (l' := #[.val (.int p1), .val (.int (15 : Int32))]) rfl ?_
      show Steps p.tables e below (s₁.setTop (mkF m 28 #[.val (.int p1), .val (.int (15 : Int32))] [])) _
      refine XS.iloadN X0.here hx rfl (hb hby d4_28) rfl ?_
      show Steps p.tables e below (s₁.setTop (mkF m 29 #[.val (.int p1), .val (.int (15 : Int32))] [(.int p1)])) _
      refine XS.bipush X0.here hx rfl (hb hby d4_29) ?_
      show Steps p.tables e below (s₁.setTop (mkF m 31 #[.val (.int p1), .val (.int (15 : Int32))] [(.int (16 : Int32)), (.int p1)])) _
      refine XS.iushr X0.here hx rfl (hb hby d4_31) rfl ?_
      show Steps p.tables e below (s₁.setTop (mkF m 32 #[.val (.int p1), .val (.int (15 : Int32))] [(.int ((p1.toUInt32 >>> ((16 : Int32) &&& 31).toUInt32).toInt32))])) _
      refine XS.istoreN X0.here hx rfl (hb hby d4_32) rfl (l' := #[.val (.int ((p1.toUInt32 >>> ((16 : Int32) &&& 31).toUInt32).toInt32)), .val (.int (15 : Int32))]) rfl ?_
      show Steps p.tables e below (s₁.setTop (mkF m 33 #[.val (.int ((p1.toUInt32 >>> ((16 : Int32) &&& 31).toUInt32).toInt32)), .val (.int (15 : Int32))] [])) _
      refine XS.iloadN X0.here hx rfl (hb hby d4_33) rfl ?_
      show Steps p.tables e below (s₁.setTop (mkF m 34 #[.val (.int ((p1.toUInt32 >>> ((16 : Int32) &&& 31).toUInt32).toInt32)), .val (.int (15 : Int32))] [(.int ((p1.toUInt32 >>> ((16 : Int32) &&& 31).toUInt32).toInt32))])) _
      refine XS.sipush X0.here hx rfl (hb hby d4_34) ?_
      show Steps p.tables e below (s₁.setTop (mkF m 37 #[.val (.int ((p1.toUInt32 >>> ((16 : Int32) &&& 31).toUInt32).toInt32)), .val (.int (15 : Int32))] [(.int (256 : Int32)), (.int ((p1.toUInt32 >>> ((16 : Int32) &&& 31).toUInt32).toInt32))])) _
      exact k
    by_cases hc20 : ((p1.toUInt32 >>> ((16 : Int32) &&& 31).toUInt32).toInt32) < (256 : Int32)
    · skip
      have pw21 : ∀ t, Steps p.tables e below (s₁.setTop (mkF m 51 #[.val (.int ((p1.toUInt32 >>> ((16 : Int32) &&& 31).toUInt32).toInt32)), .val (.int (15 : Int32))] [(.int (16 : Int32)), (.int ((p1.toUInt32 >>> ((16 : Int32) &&& 31).toUInt32).toInt32))])) t → Steps p.tables e below (s₁.setTop (entryFrame m #[(.int p1)] 2)) t := by
        intro t k
        refine pw19 t ?_
        refine XS.icmpYes X0.here hx rfl (pc0 := 37) (pc' := 48) rfl (hb hby d4_37) rfl (tlt hc20).1 (by decide) (by decide) ?_
        show Steps p.tables e below (s₁.setTop (mkF m 48 #[.val (.int ((p1.toUInt32 >>> ((16 : Int32) &&& 31).toUInt32).toInt32)), .val (.int (15 : Int32))] [])) _
        refine XS.iloadN X0.here hx rfl (hb hby d4_48) rfl ?_
        show Steps p.tables e below (s₁.setTop (mkF m 49 #[.val (.int ((p1.toUInt32 >>> ((16 : Int32) &&& 31).toUInt32).toInt32)), .val (.int (15 : Int32))] [(.int ((p1.toUInt32 >>> ((16 : Int32) &&& 31).toUInt32).toInt32))])) _
        refine XS.bipush X0.here hx rfl (hb hby d4_49) ?_
        show Steps p.tables e below (s₁.setTop (mkF m 51 #[.val (.int ((p1.toUInt32 >>> ((16 : Int32) &&& 31).toUInt32).toInt32)), .val (.int (15 : Int32))] [(.int (16 : Int32)), (.int ((p1.toUInt32 >>> ((16 : Int32) &&& 31).toUInt32).toInt32))])) _
        exact k
      by_cases hc22 : ((p1.toUInt32 >>> ((16 : Int32) &&& 31).toUInt32).toInt32) < (16 : Int32)
      · skip
        have pw23 : ∀ t, Steps p.tables e below (s₁.setTop (mkF m 63 #[.val (.int ((p1.toUInt32 >>> ((16 : Int32) &&& 31).toUInt32).toInt32)), .val (.int (15 : Int32))] [(.int (4 : Int32)), (.int ((p1.toUInt32 >>> ((16 : Int32) &&& 31).toUInt32).toInt32))])) t → Steps p.tables e below (s₁.setTop (entryFrame m #[(.int p1)] 2)) t := by
          intro t k
          refine pw21 t ?_
          refine XS.icmpYes X0.here hx rfl (pc0 := 51) (pc' := 61) rfl (hb hby d4_51) rfl (tlt hc22).1 (by decide) (by decide) ?_
          show Steps p.tables e below (s₁.setTop (mkF m 61 #[.val (.int ((p1.toUInt32 >>> ((16 : Int32) &&& 31).toUInt32).toInt32)), .val (.int (15 : Int32))] [])) _
          refine XS.iloadN X0.here hx rfl (hb hby d4_61) rfl ?_
          show Steps p.tables e below (s₁.setTop (mkF m 62 #[.val (.int ((p1.toUInt32 >>> ((16 : Int32) &&& 31).toUInt32).toInt32)), .val (.int (15 : Int32))] [(.int ((p1.toUInt32 >>> ((16 : Int32) &&& 31).toUInt32).toInt32))])) _
          refine XS.iconst X0.here hx rfl (hb hby d4_62) ?_
          show Steps p.tables e below (s₁.setTop (mkF m 63 #[.val (.int ((p1.toUInt32 >>> ((16 : Int32) &&& 31).toUInt32).toInt32)), .val (.int (15 : Int32))] [(.int (4 : Int32)), (.int ((p1.toUInt32 >>> ((16 : Int32) &&& 31).toUInt32).toInt32))])) _
          exact k
        by_cases hc24 : ((p1.toUInt32 >>> ((16 : Int32) &&& 31).toUInt32).toInt32) < (4 : Int32)
        · skip
          obtain ⟨fs, hr, hrun, hended, hW, hsame⟩ := X0.leave (v := some (.int ((15 : Int32) - ((((p1.toUInt32 >>> ((16 : Int32) &&& 31).toUInt32).toInt32).toUInt32 >>> ((1 : Int32) &&& 31).toUInt32).toInt32)))) (fun h => by rw [Bd.returns] at h; cases h)
          refine ⟨_, _, pw23 _ ?_, hrun, hended, _, _, rfl, ?_, ⟨_, rfl⟩, hW, hsame.mono (by decide) (by decide)⟩
          · skip
            refine XS.icmpYes X0.here hx rfl (pc0 := 63) (pc' := 73) rfl (hb hby d4_63) rfl (tlt hc24).1 (by decide) (by decide) ?_
            show Steps p.tables e below (s₁.setTop (mkF m 73 #[.val (.int ((p1.toUInt32 >>> ((16 : Int32) &&& 31).toUInt32).toInt32)), .val (.int (15 : Int32))] [])) _
            refine XS.iloadN X0.here hx rfl (hb hby d4_73) rfl ?_
            show Steps p.tables e below (s₁.setTop (mkF m 74 #[.val (.int ((p1.toUInt32 >>> ((16 : Int32) &&& 31).toUInt32).toInt32)), .val (.int (15 : Int32))] [(.int (15 : Int32))])) _
            refine XS.iloadN X0.here hx rfl (hb hby d4_74) rfl ?_
            show Steps p.tables e below (s₁.setTop (mkF m 75 #[.val (.int ((p1.toUInt32 >>> ((16 : Int32) &&& 31).toUInt32).toInt32)), .val (.int (15 : Int32))] [(.int ((p1.toUInt32 >>> ((16 : Int32) &&& 31).toUInt32).toInt32)), (.int (15 : Int32))])) _
            refine XS.iconst X0.here hx rfl (hb hby d4_75) ?_
            show Steps p.tables e below (s₁.setTop (mkF m 76 #[.val (.int ((p1.toUInt32 >>> ((16 : Int32) &&& 31).toUInt32).toInt32)), .val (.int (15 : Int32))] [(.int (1 : Int32)), (.int ((p1.toUInt32 >>> ((16 : Int32) &&& 31).toUInt32).toInt32)), (.int (15 : Int32))])) _
            refine XS.iushr X0.here hx rfl (hb hby d4_76) rfl ?_
            show Steps p.tables e below (s₁.setTop (mkF m 77 #[.val (.int ((p1.toUInt32 >>> ((16 : Int32) &&& 31).toUInt32).toInt32)), .val (.int (15 : Int32))] [(.int ((((p1.toUInt32 >>> ((16 : Int32) &&& 31).toUInt32).toInt32).toUInt32 >>> ((1 : Int32) &&& 31).toUInt32).toInt32)), (.int (15 : Int32))])) _
            refine XS.isub X0.here hx rfl (hb hby d4_77) rfl ?_
            show Steps p.tables e below (s₁.setTop (mkF m 78 #[.val (.int ((p1.toUInt32 >>> ((16 : Int32) &&& 31).toUInt32).toInt32)), .val (.int (15 : Int32))] [(.int ((15 : Int32) - ((((p1.toUInt32 >>> ((16 : Int32) &&& 31).toUInt32).toInt32).toUInt32 >>> ((1 : Int32) &&& 31).toUInt32).toInt32)))])) _
            exact retI X0 hx Bd.returns (hb hby d4_78) hr
          · show Q_4 Z p1 r h0 n0 _ s₁.heap _
            rw [e0]
            exact ⟨by rw [← hsp]; unfold own_n0; rw [if_neg hc4]; unfold own_n1; rw [if_pos hc20]; unfold own_n2; rw [if_pos hc22]; unfold own_n3; rw [if_pos hc24]; rfl, N0, rfl⟩
        · skip
          obtain ⟨fs, hr, hrun, hended, hW, hsame⟩ := X0.leave (v := some (.int ((13 : Int32) - ((((((p1.toUInt32 >>> ((16 : Int32) &&& 31).toUInt32).toInt32).toUInt32 >>> ((2 : Int32) &&& 31).toUInt32).toInt32).toUInt32 >>> ((1 : Int32) &&& 31).toUInt32).toInt32)))) (fun h => by rw [Bd.returns] at h; cases h)
          refine ⟨_, _, pw23 _ ?_, hrun, hended, _, _, rfl, ?_, ⟨_, rfl⟩, hW, hsame.mono (by decide) (by decide)⟩
          · skip
            refine XS.icmpNo X0.here hx rfl (hb hby d4_63) rfl (flt hc24).1 ?_
            show Steps p.tables e below (s₁.setTop (mkF m 66 #[.val (.int ((p1.toUInt32 >>> ((16 : Int32) &&& 31).toUInt32).toInt32)), .val (.int (15 : Int32))] [])) _
            refine XS.iinc X0.here hx rfl (hb hby d4_66) rfl (l' := #[.val (.int ((p1.toUInt32 >>> ((16 : Int32) &&& 31).toUInt32).toInt32)), .val (.int (13 : Int32))]) rfl ?_
            show Steps p.tables e below (s₁.setTop (mkF m 69 #[.val (.int ((p1.toUInt32 >>> ((16 : Int32) &&& 31).toUInt32).toInt32)), .val (.int (13 : Int32))] [])) _
            refine XS.iloadN X0.here hx rfl (hb hby d4_69) rfl ?_
            show Steps p.tables e below (s₁.setTop (mkF m 70 #[.val (.int ((p1.toUInt32 >>> ((16 : Int32) &&& 31).toUInt32).toInt32)), .val (.int (13 : Int32))] [(.int ((p1.toUInt32 >>> ((16 : Int32) &&& 31).toUInt32).toInt32))])) _
            refine XS.iconst X0.here hx rfl (hb hby d4_70) ?_
            show Steps p.tables e below (s₁.setTop (mkF m 71 #[.val (.int ((p1.toUInt32 >>> ((16 : Int32) &&& 31).toUInt32).toInt32)), .val (.int (13 : Int32))] [(.int (2 : Int32)), (.int ((p1.toUInt32 >>> ((16 : Int32) &&& 31).toUInt32).toInt32))])) _
            refine XS.iushr X0.here hx rfl (hb hby d4_71) rfl ?_
            show Steps p.tables e below (s₁.setTop (mkF m 72 #[.val (.int ((p1.toUInt32 >>> ((16 : Int32) &&& 31).toUInt32).toInt32)), .val (.int (13 : Int32))] [(.int ((((p1.toUInt32 >>> ((16 : Int32) &&& 31).toUInt32).toInt32).toUInt32 >>> ((2 : Int32) &&& 31).toUInt32).toInt32))])) _
            refine XS.istoreN X0.here hx rfl (hb hby d4_72) rfl (l' := #[.val (.int ((((p1.toUInt32 >>> ((16 : Int32) &&& 31).toUInt32).toInt32).toUInt32 >>> ((2 : Int32) &&& 31).toUInt32).toInt32)), .val (.int (13 : Int32))]) rfl ?_
            show Steps p.tables e below (s₁.setTop (mkF m 73 #[.val (.int ((((p1.toUInt32 >>> ((16 : Int32) &&& 31).toUInt32).toInt32).toUInt32 >>> ((2 : Int32) &&& 31).toUInt32).toInt32)), .val (.int (13 : Int32))] [])) _
            refine XS.iloadN X0.here hx rfl (hb hby d4_73) rfl ?_
            show Steps p.tables e below (s₁.setTop (mkF m 74 #[.val (.int ((((p1.toUInt32 >>> ((16 : Int32) &&& 31).toUInt32).toInt32).toUInt32 >>> ((2 : Int32) &&& 31).toUInt32).toInt32)), .val (.int (13 : Int32))] [(.int (13 : Int32))])) _
            refine XS.iloadN X0.here hx rfl (hb hby d4_74) rfl ?_
            show Steps p.tables e below (s₁.setTop (mkF m 75 #[.val (.int ((((p1.toUInt32 >>> ((16 : Int32) &&& 31).toUInt32).toInt32).toUInt32 >>> ((2 : Int32) &&& 31).toUInt32).toInt32)), .val (.int (13 : Int32))] [(.int ((((p1.toUInt32 >>> ((16 : Int32) &&& 31).toUInt32).toInt32).toUInt32 >>> ((2 : Int32) &&& 31).toUInt32).toInt32)), (.int (13 : Int32))])) _
            refine XS.iconst X0.here hx rfl (hb hby d4_75) ?_
            show Steps p.tables e below (s₁.setTop (mkF m 76 #[.val (.int ((((p1.toUInt32 >>> ((16 : Int32) &&& 31).toUInt32).toInt32).toUInt32 >>> ((2 : Int32) &&& 31).toUInt32).toInt32)), .val (.int (13 : Int32))] [(.int (1 : Int32)), (.int ((((p1.toUInt32 >>> ((16 : Int32) &&& 31).toUInt32).toInt32).toUInt32 >>> ((2 : Int32) &&& 31).toUInt32).toInt32)), (.int (13 : Int32))])) _
            refine XS.iushr X0.here hx rfl (hb hby d4_76) rfl ?_
            show Steps p.tables e below (s₁.setTop (mkF m 77 #[.val (.int ((((p1.toUInt32 >>> ((16 : Int32) &&& 31).toUInt32).toInt32).toUInt32 >>> ((2 : Int32) &&& 31).toUInt32).toInt32)), .val (.int (13 : Int32))] [(.int ((((((p1.toUInt32 >>> ((16 : Int32) &&& 31).toUInt32).toInt32).toUInt32 >>> ((2 : Int32) &&& 31).toUInt32).toInt32).toUInt32 >>> ((1 : Int32) &&& 31).toUInt32).toInt32)), (.int (13 : Int32))])) _
            refine XS.isub X0.here hx rfl (hb hby d4_77) rfl ?_
            show Steps p.tables e below (s₁.setTop (mkF m 78 #[.val (.int ((((p1.toUInt32 >>> ((16 : Int32) &&& 31).toUInt32).toInt32).toUInt32 >>> ((2 : Int32) &&& 31).toUInt32).toInt32)), .val (.int (13 : Int32))] [(.int ((13 : Int32) - ((((((p1.toUInt32 >>> ((16 : Int32) &&& 31).toUInt32).toInt32).toUInt32 >>> ((2 : Int32) &&& 31).toUInt32).toInt32).toUInt32 >>> ((1 : Int32) &&& 31).toUInt32).toInt32)))])) _
            exact retI X0 hx Bd.returns (hb hby d4_78) hr
          · show Q_4 Z p1 r h0 n0 _ s₁.heap _
            rw [e0]
            exact ⟨by rw [← hsp]; unfold own_n0; rw [if_neg hc4]; unfold own_n1; rw [if_pos hc20]; unfold own_n2; rw [if_pos hc22]; unfold own_n3; rw [if_neg hc24]; rfl, N0, rfl⟩
      · skip
        have pw25 : ∀ t, Steps p.tables e below (s₁.setTop (mkF m 63 #[.val (.int ((((p1.toUInt32 >>> ((16 : Int32) &&& 31).toUInt32).toInt32).toUInt32 >>> ((4 : Int32) &&& 31).toUInt32).toInt32)), .val (.int (11 : Int32))] [(.int (4 : Int32)), (.int ((((p1.toUInt32 >>> ((16 : Int32) &&& 31).toUInt32).toInt32).toUInt32 >>> ((4 : Int32) &&& 31).toUInt32).toInt32))])) t → Steps p.tables e below (s₁.setTop (entryFrame m #[(.int p1)] 2)) t := by
          intro t k
          refine pw21 t ?_
          refine XS.icmpNo X0.here hx rfl (hb hby d4_51) rfl (flt hc22).1 ?_
          show Steps p.tables e below (s₁.setTop (mkF m 54 #[.val (.int ((p1.toUInt32 >>> ((16 : Int32) &&& 31).toUInt32).toInt32)), .val (.int (15 : Int32))] [])) _
          refine XS.iinc X0.here hx rfl (hb hby d4_54) rfl (l' := #[.val (.int ((p1.toUInt32 >>> ((16 : Int32) &&& 31).toUInt32).toInt32)), .val (.int (11 : Int32))]) rfl ?_
          show Steps p.tables e below (s₁.setTop (mkF m 57 #[.val (.int ((p1.toUInt32 >>> ((16 : Int32) &&& 31).toUInt32).toInt32)), .val (.int (11 : Int32))] [])) _
          refine XS.iloadN X0.here hx rfl (hb hby d4_57) rfl ?_
          show Steps p.tables e below (s₁.setTop (mkF m 58 #[.val (.int ((p1.toUInt32 >>> ((16 : Int32) &&& 31).toUInt32).toInt32)), .val (.int (11 : Int32))] [(.int ((p1.toUInt32 >>> ((16 : Int32) &&& 31).toUInt32).toInt32))])) _
          refine XS.iconst X0.here hx rfl (hb hby d4_58) ?_
          show Steps p.tables e below (s₁.setTop (mkF m 59 #[.val (.int ((p1.toUInt32 >>> ((16 : Int32) &&& 31).toUInt32).toInt32)), .val (.int (11 : Int32))] [(.int (4 : Int32)), (.int ((p1.toUInt32 >>> ((16 : Int32) &&& 31).toUInt32).toInt32))])) _
          refine XS.iushr X0.here hx rfl (hb hby d4_59) rfl ?_
          show Steps p.tables e below (s₁.setTop (mkF m 60 #[.val (.int ((p1.toUInt32 >>> ((16 : Int32) &&& 31).toUInt32).toInt32)), .val (.int (11 : Int32))] [(.int ((((p1.toUInt32 >>> ((16 : Int32) &&& 31).toUInt32).toInt32).toUInt32 >>> ((4 : Int32) &&& 31).toUInt32).toInt32))])) _
          refine XS.istoreN X0.here hx rfl (hb hby d4_60) rfl (l' := #[.val (.int ((((p1.toUInt32 >>> ((16 : Int32) &&& 31).toUInt32).toInt32).toUInt32 >>> ((4 : Int32) &&& 31).toUInt32).toInt32)), .val (.int (11 : Int32))]) rfl ?_
          show Steps p.tables e below (s₁.setTop (mkF m 61 #[.val (.int ((((p1.toUInt32 >>> ((16 : Int32) &&& 31).toUInt32).toInt32).toUInt32 >>> ((4 : Int32) &&& 31).toUInt32).toInt32)), .val (.int (11 : Int32))] [])) _
          refine XS.iloadN X0.here hx rfl (hb hby d4_61) rfl ?_
          show Steps p.tables e below (s₁.setTop (mkF m 62 #[.val (.int ((((p1.toUInt32 >>> ((16 : Int32) &&& 31).toUInt32).toInt32).toUInt32 >>> ((4 : Int32) &&& 31).toUInt32).toInt32)), .val (.int (11 : Int32))] [(.int ((((p1.toUInt32 >>> ((16 : Int32) &&& 31).toUInt32).toInt32).toUInt32 >>> ((4 : Int32) &&& 31).toUInt32).toInt32))])) _
          refine XS.iconst X0.here hx rfl (hb hby d4_62) ?_
          show Steps p.tables e below (s₁.setTop (mkF m 63 #[.val (.int ((((p1.toUInt32 >>> ((16 : Int32) &&& 31).toUInt32).toInt32).toUInt32 >>> ((4 : Int32) &&& 31).toUInt32).toInt32)), .val (.int (11 : Int32))] [(.int (4 : Int32)), (.int ((((p1.toUInt32 >>> ((16 : Int32) &&& 31).toUInt32).toInt32).toUInt32 >>> ((4 : Int32) &&& 31).toUInt32).toInt32))])) _
          exact k
        by_cases hc26 : ((((p1.toUInt32 >>> ((16 : Int32) &&& 31).toUInt32).toInt32).toUInt32 >>> ((4 : Int32) &&& 31).toUInt32).toInt32) < (4 : Int32)
        · skip
          obtain ⟨fs, hr, hrun, hended, hW, hsame⟩ := X0.leave (v := some (.int ((11 : Int32) - ((((((p1.toUInt32 >>> ((16 : Int32) &&& 31).toUInt32).toInt32).toUInt32 >>> ((4 : Int32) &&& 31).toUInt32).toInt32).toUInt32 >>> ((1 : Int32) &&& 31).toUInt32).toInt32)))) (fun h => by rw [Bd.returns] at h; cases h)
          refine ⟨_, _, pw25 _ ?_, hrun, hended, _, _, rfl, ?_, ⟨_, rfl⟩, hW, hsame.mono (by decide) (by decide)⟩
          · skip
            refine XS.icmpYes X0.here hx rfl (pc0 := 63) (pc' := 73) rfl (hb hby d4_63) rfl (tlt hc26).1 (by decide) (by decide) ?_
            show Steps p.tables e below (s₁.setTop (mkF m 73 #[.val (.int ((((p1.toUInt32 >>> ((16 : Int32) &&& 31).toUInt32).toInt32).toUInt32 >>> ((4 : Int32) &&& 31).toUInt32).toInt32)), .val (.int (11 : Int32))] [])) _
            refine XS.iloadN X0.here hx rfl (hb hby d4_73) rfl ?_
            show Steps p.tables e below (s₁.setTop (mkF m 74 #[.val (.int ((((p1.toUInt32 >>> ((16 : Int32) &&& 31).toUInt32).toInt32).toUInt32 >>> ((4 : Int32) &&& 31).toUInt32).toInt32)), .val (.int (11 : Int32))] [(.int (11 : Int32))])) _
            refine XS.iloadN X0.here hx rfl (hb hby d4_74) rfl ?_
            show Steps p.tables e below (s₁.setTop (mkF m 75 #[.val (.int ((((p1.toUInt32 >>> ((16 : Int32) &&& 31).toUInt32).toInt32).toUInt32 >>> ((4 : Int32) &&& 31).toUInt32).toInt32)), .val (.int (11 : Int32))] [(.int ((((p1.toUInt32 >>> ((16 : Int32) &&& 31).toUInt32).toInt32).toUInt32 >>> ((4 : Int32) &&& 31).toUInt32).toInt32)), (.int (11 : Int32))])) _
            refine XS.iconst X0.here hx rfl (hb hby d4_75) ?_
            show Steps p.tables e below (s₁.setTop (mkF m 76 #[.val (.int ((((p1.toUInt32 >>> ((16 : Int32) &&& 31).toUInt32).toInt32).toUInt32 >>> ((4 : Int32) &&& 31).toUInt32).toInt32)), .val (.int (11 : Int32))] [(.int (1 : Int32)), (.int ((((p1.toUInt32 >>> ((16 : Int32) &&& 31).toUInt32).toInt32).toUInt32 >>> ((4 : Int32) &&& 31).toUInt32).toInt32)), (.int (11 : Int32))])) _
            refine XS.iushr X0.here hx rfl (hb hby d4_76) rfl ?_
            show Steps p.tables e below (s₁.setTop (mkF m 77 #[.val (.int ((((p1.toUInt32 >>> ((16 : Int32) &&& 31).toUInt32).toInt32).toUInt32 >>> ((4 : Int32) &&& 31).toUInt32).toInt32)), .val (.int (11 : Int32))] [(.int ((((((p1.toUInt32 >>> ((16 : Int32) &&& 31).toUInt32).toInt32).toUInt32 >>> ((4 : Int32) &&& 31).toUInt32).toInt32).toUInt32 >>> ((1 : Int32) &&& 31).toUInt32).toInt32)), (.int (11 : Int32))])) _
            refine XS.isub X0.here hx rfl (hb hby d4_77) rfl ?_
            show Steps p.tables e below (s₁.setTop (mkF m 78 #[.val (.int ((((p1.toUInt32 >>> ((16 : Int32) &&& 31).toUInt32).toInt32).toUInt32 >>> ((4 : Int32) &&& 31).toUInt32).toInt32)), .val (.int (11 : Int32))] [(.int ((11 : Int32) - ((((((p1.toUInt32 >>> ((16 : Int32) &&& 31).toUInt32).toInt32).toUInt32 >>> ((4 : Int32) &&& 31).toUInt32).toInt32).toUInt32 >>> ((1 : Int32) &&& 31).toUInt32).toInt32)))])) _
            exact retI X0 hx Bd.returns (hb hby d4_78) hr
          · show Q_4 Z p1 r h0 n0 _ s₁.heap _
            rw [e0]
            exact ⟨by rw [← hsp]; unfold own_n0; rw [if_neg hc4]; unfold own_n1; rw [if_pos hc20]; unfold own_n2; rw [if_neg hc22]; unfold own_n3; rw [if_pos hc26]; rfl, N0, rfl⟩
        · skip
          obtain ⟨fs, hr, hrun, hended, hW, hsame⟩ := X0.leave (v := some (.int ((9 : Int32) - ((((((((p1.toUInt32 >>> ((16 : Int32) &&& 31).toUInt32).toInt32).toUInt32 >>> ((4 : Int32) &&& 31).toUInt32).toInt32).toUInt32 >>> ((2 : Int32) &&& 31).toUInt32).toInt32).toUInt32 >>> ((1 : Int32) &&& 31).toUInt32).toInt32)))) (fun h => by rw [Bd.returns] at h; cases h)
          refine ⟨_, _, pw25 _ ?_, hrun, hended, _, _, rfl, ?_, ⟨_, rfl⟩, hW, hsame.mono (by decide) (by decide)⟩
          · skip
            refine XS.icmpNo X0.here hx rfl (hb hby d4_63) rfl (flt hc26).1 ?_
            show Steps p.tables e below (s₁.setTop (mkF m 66 #[.val (.int ((((p1.toUInt32 >>> ((16 : Int32) &&& 31).toUInt32).toInt32).toUInt32 >>> ((4 : Int32) &&& 31).toUInt32).toInt32)), .val (.int (11 : Int32))] [])) _
            refine XS.iinc X0.here hx rfl (hb hby d4_66) rfl (l' := #[.val (.int ((((p1.toUInt32 >>> ((16 : Int32) &&& 31).toUInt32).toInt32).toUInt32 >>> ((4 : Int32) &&& 31).toUInt32).toInt32)), .val (.int (9 : Int32))]) rfl ?_
            show Steps p.tables e below (s₁.setTop (mkF m 69 #[.val (.int ((((p1.toUInt32 >>> ((16 : Int32) &&& 31).toUInt32).toInt32).toUInt32 >>> ((4 : Int32) &&& 31).toUInt32).toInt32)), .val (.int (9 : Int32))] [])) _
            refine XS.iloadN X0.here hx rfl (hb hby d4_69) rfl ?_
            show Steps p.tables e below (s₁.setTop (mkF m 70 #[.val (.int ((((p1.toUInt32 >>> ((16 : Int32) &&& 31).toUInt32).toInt32).toUInt32 >>> ((4 : Int32) &&& 31).toUInt32).toInt32)), .val (.int (9 : Int32))] [(.int ((((p1.toUInt32 >>> ((16 : Int32) &&& 31).toUInt32).toInt32).toUInt32 >>> ((4 : Int32) &&& 31).toUInt32).toInt32))])) _
            refine XS.iconst X0.here hx rfl (hb hby d4_70) ?_
            show Steps p.tables e below (s₁.setTop (mkF m 71 #[.val (.int ((((p1.toUInt32 >>> ((16 : Int32) &&& 31).toUInt32).toInt32).toUInt32 >>> ((4 : Int32) &&& 31).toUInt32).toInt32)), .val (.int (9 : Int32))] [(.int (2 : Int32)), (.int ((((p1.toUInt32 >>> ((16 : Int32) &&& 31).toUInt32).toInt32).toUInt32 >>> ((4 : Int32) &&& 31).toUInt32).toInt32))])) _
            refine XS.iushr X0.here hx rfl (hb hby d4_71) rfl ?_
            show Steps p.tables e below (s₁.setTop (mkF m 72 #[.val (.int ((((p1.toUInt32 >>> ((16 : Int32) &&& 31).toUInt32).toInt32).toUInt32 >>> ((4 : Int32) &&& 31).toUInt32).toInt32)), .val (.int (9 : Int32))] [(.int ((((((p1.toUInt32 >>> ((16 : Int32) &&& 31).toUInt32).toInt32).toUInt32 >>> ((4 : Int32) &&& 31).toUInt32).toInt32).toUInt32 >>> ((2 : Int32) &&& 31).toUInt32).toInt32))])) _
            refine XS.istoreN X0.here hx rfl (hb hby d4_72) rfl (l' := #[.val (.int ((((((p1.toUInt32 >>> ((16 : Int32) &&& 31).toUInt32).toInt32).toUInt32 >>> ((4 : Int32) &&& 31).toUInt32).toInt32).toUInt32 >>> ((2 : Int32) &&& 31).toUInt32).toInt32)), .val (.int (9 : Int32))]) rfl ?_
            show Steps p.tables e below (s₁.setTop (mkF m 73 #[.val (.int ((((((p1.toUInt32 >>> ((16 : Int32) &&& 31).toUInt32).toInt32).toUInt32 >>> ((4 : Int32) &&& 31).toUInt32).toInt32).toUInt32 >>> ((2 : Int32) &&& 31).toUInt32).toInt32)), .val (.int (9 : Int32))] [])) _
            refine XS.iloadN X0.here hx rfl (hb hby d4_73) rfl ?_
            show Steps p.tables e below (s₁.setTop (mkF m 74 #[.val (.int ((((((p1.toUInt32 >>> ((16 : Int32) &&& 31).toUInt32).toInt32).toUInt32 >>> ((4 : Int32) &&& 31).toUInt32).toInt32).toUInt32 >>> ((2 : Int32) &&& 31).toUInt32).toInt32)), .val (.int (9 : Int32))] [(.int (9 : Int32))])) _
            refine XS.iloadN X0.here hx rfl (hb hby d4_74) rfl ?_
            show Steps p.tables e below (s₁.setTop (mkF m 75 #[.val (.int ((((((p1.toUInt32 >>> ((16 : Int32) &&& 31).toUInt32).toInt32).toUInt32 >>> ((4 : Int32) &&& 31).toUInt32).toInt32).toUInt32 >>> ((2 : Int32) &&& 31).toUInt32).toInt32)), .val (.int (9 : Int32))] [(.int ((((((p1.toUInt32 >>> ((16 : Int32) &&& 31).toUInt32).toInt32).toUInt32 >>> ((4 : Int32) &&& 31).toUInt32).toInt32).toUInt32 >>> ((2 : Int32) &&& 31).toUInt32).toInt32)), (.int (9 : Int32))])) _
            refine XS.iconst X0.here hx rfl (hb hby d4_75) ?_
            show Steps p.tables e below (s₁.setTop (mkF m 76 #[.val (.int ((((((p1.toUInt32 >>> ((16 : Int32) &&& 31).toUInt32).toInt32).toUInt32 >>> ((4 : Int32) &&& 31).toUInt32).toInt32).toUInt32 >>> ((2 : Int32) &&& 31).toUInt32).toInt32)), .val (.int (9 : Int32))] [(.int (1 : Int32)), (.int ((((((p1.toUInt32 >>> ((16 : Int32) &&& 31).toUInt32).toInt32).toUInt32 >>> ((4 : Int32) &&& 31).toUInt32).toInt32).toUInt32 >>> ((2 : Int32) &&& 31).toUInt32).toInt32)), (.int (9 : Int32))])) _
            refine XS.iushr X0.here hx rfl (hb hby d4_76) rfl ?_
            show Steps p.tables e below (s₁.setTop (mkF m 77 #[.val (.int ((((((p1.toUInt32 >>> ((16 : Int32) &&& 31).toUInt32).toInt32).toUInt32 >>> ((4 : Int32) &&& 31).toUInt32).toInt32).toUInt32 >>> ((2 : Int32) &&& 31).toUInt32).toInt32)), .val (.int (9 : Int32))] [(.int ((((((((p1.toUInt32 >>> ((16 : Int32) &&& 31).toUInt32).toInt32).toUInt32 >>> ((4 : Int32) &&& 31).toUInt32).toInt32).toUInt32 >>> ((2 : Int32) &&& 31).toUInt32).toInt32).toUInt32 >>> ((1 : Int32) &&& 31).toUInt32).toInt32)), (.int (9 : Int32))])) _
            refine XS.isub X0.here hx rfl (hb hby d4_77) rfl ?_
            show Steps p.tables e below (s₁.setTop (mkF m 78 #[.val (.int ((((((p1.toUInt32 >>> ((16 : Int32) &&& 31).toUInt32).toInt32).toUInt32 >>> ((4 : Int32) &&& 31).toUInt32).toInt32).toUInt32 >>> ((2 : Int32) &&& 31).toUInt32).toInt32)), .val (.int (9 : Int32))] [(.int ((9 : Int32) - ((((((((p1.toUInt32 >>> ((16 : Int32) &&& 31).toUInt32).toInt32).toUInt32 >>> ((4 : Int32) &&& 31).toUInt32).toInt32).toUInt32 >>> ((2 : Int32) &&& 31).toUInt32).toInt32).toUInt32 >>> ((1 : Int32) &&& 31).toUInt32).toInt32)))])) _
            exact retI X0 hx Bd.returns (hb hby d4_78) hr
          · show Q_4 Z p1 r h0 n0 _ s₁.heap _
            rw [e0]
            exact ⟨by rw [← hsp]; unfold own_n0; rw [if_neg hc4]; unfold own_n1; rw [if_pos hc20]; unfold own_n2; rw [if_neg hc22]; unfold own_n3; rw [if_neg hc26]; rfl, N0, rfl⟩
    · skip
      have pw27 : ∀ t, Steps p.tables e below (s₁.setTop (mkF m 51 #[.val (.int ((((p1.toUInt32 >>> ((16 : Int32) &&& 31).toUInt32).toInt32).toUInt32 >>> ((8 : Int32) &&& 31).toUInt32).toInt32)), .val (.int (7 : Int32))] [(.int (16 : Int32)), (.int ((((p1.toUInt32 >>> ((16 : Int32) &&& 31).toUInt32).toInt32).toUInt32 >>> ((8 : Int32) &&& 31).toUInt32).toInt32))])) t → Steps p.tables e below (s₁.setTop (entryFrame m #[(.int p1)] 2)) t := by
        intro t k
        refine pw19 t ?_
        refine XS.icmpNo X0.here hx rfl (hb hby d4_37) rfl (flt hc20).1 ?_
        show Steps p.tables e below (s₁.setTop (mkF m 40 #[.val (.int ((p1.toUInt32 >>> ((16 : Int32) &&& 31).toUInt32).toInt32)), .val (.int (15 : Int32))] [])) _
        refine XS.iinc X0.here hx rfl (hb hby d4_40) rfl (l' := #[.val (.int ((p1.toUInt32 >>> ((16 : Int32) &&& 31).toUInt32).toInt32)), .val (.int (7 : Int32))]) rfl ?_
        show Steps p.tables e below (s₁.setTop (mkF m 43 #[.val (.int ((p1.toUInt32 >>> ((16 : Int32) &&& 31).toUInt32).toInt32)), .val (.int (7 : Int32))] [])) _
        refine XS.iloadN X0.here hx rfl (hb hby d4_43) rfl ?_
        show Steps p.tables e below (s₁.setTop (mkF m 44 #[.val (.int ((p1.toUInt32 >>> ((16 : Int32) &&& 31).toUInt32).toInt32)), .val (.int (7 : Int32))] [(.int ((p1.toUInt32 >>> ((16 : Int32) &&& 31).toUInt32).toInt32))])) _
        refine XS.bipush X0.here hx rfl (hb hby d4_44) ?_
        show Steps p.tables e below (s₁.setTop (mkF m 46 #[.val (.int ((p1.toUInt32 >>> ((16 : Int32) &&& 31).toUInt32).toInt32)), .val (.int (7 : Int32))] [(.int (8 : Int32)), (.int ((p1.toUInt32 >>> ((16 : Int32) &&& 31).toUInt32).toInt32))])) _
        refine XS.iushr X0.here hx rfl (hb hby d4_46) rfl ?_
        show Steps p.tables e below (s₁.setTop (mkF m 47 #[.val (.int ((p1.toUInt32 >>> ((16 : Int32) &&& 31).toUInt32).toInt32)), .val (.int (7 : Int32))] [(.int ((((p1.toUInt32 >>> ((16 : Int32) &&& 31).toUInt32).toInt32).toUInt32 >>> ((8 : Int32) &&& 31).toUInt32).toInt32))])) _
        refine XS.istoreN X0.here hx rfl (hb hby d4_47) rfl (l' := #[.val (.int ((((p1.toUInt32 >>> ((16 : Int32) &&& 31).toUInt32).toInt32).toUInt32 >>> ((8 : Int32) &&& 31).toUInt32).toInt32)), .val (.int (7 : Int32))]) rfl ?_
        show Steps p.tables e below (s₁.setTop (mkF m 48 #[.val (.int ((((p1.toUInt32 >>> ((16 : Int32) &&& 31).toUInt32).toInt32).toUInt32 >>> ((8 : Int32) &&& 31).toUInt32).toInt32)), .val (.int (7 : Int32))] [])) _
        refine XS.iloadN X0.here hx rfl (hb hby d4_48) rfl ?_
        show Steps p.tables e below (s₁.setTop (mkF m 49 #[.val (.int ((((p1.toUInt32 >>> ((16 : Int32) &&& 31).toUInt32).toInt32).toUInt32 >>> ((8 : Int32) &&& 31).toUInt32).toInt32)), .val (.int (7 : Int32))] [(.int ((((p1.toUInt32 >>> ((16 : Int32) &&& 31).toUInt32).toInt32).toUInt32 >>> ((8 : Int32) &&& 31).toUInt32).toInt32))])) _
        refine XS.bipush X0.here hx rfl (hb hby d4_49) ?_
        show Steps p.tables e below (s₁.setTop (mkF m 51 #[.val (.int ((((p1.toUInt32 >>> ((16 : Int32) &&& 31).toUInt32).toInt32).toUInt32 >>> ((8 : Int32) &&& 31).toUInt32).toInt32)), .val (.int (7 : Int32))] [(.int (16 : Int32)), (.int ((((p1.toUInt32 >>> ((16 : Int32) &&& 31).toUInt32).toInt32).toUInt32 >>> ((8 : Int32) &&& 31).toUInt32).toInt32))])) _
        exact k
      by_cases hc28 : ((((p1.toUInt32 >>> ((16 : Int32) &&& 31).toUInt32).toInt32).toUInt32 >>> ((8 : Int32) &&& 31).toUInt32).toInt32) < (16 : Int32)
      · skip
        have pw29 : ∀ t, Steps p.tables e below (s₁.setTop (mkF m 63 #[.val (.int ((((p1.toUInt32 >>> ((16 : Int32) &&& 31).toUInt32).toInt32).toUInt32 >>> ((8 : Int32) &&& 31).toUInt32).toInt32)), .val (.int (7 : Int32))] [(.int (4 : Int32)), (.int ((((p1.toUInt32 >>> ((16 : Int32) &&& 31).toUInt32).toInt32).toUInt32 >>> ((8 : Int32) &&& 31).toUInt32).toInt32))])) t → Steps p.tables e below (s₁.setTop (entryFrame m #[(.int p1)] 2)) t := by
          intro t k
          refine pw27 t ?_
          refine XS.icmpYes X0.here hx rfl (pc0 := 51) (pc' := 61) rfl (hb hby d4_51) rfl (tlt hc28).1 (by decide) (by decide) ?_
          show Steps p.tables e below (s₁.setTop (mkF m 61 #[.val (.int ((((p1.toUInt32 >>> ((16 : Int32) &&& 31).toUInt32).toInt32).toUInt32 >>> ((8 : Int32) &&& 31).toUInt32).toInt32)), .val (.int (7 : Int32))] [])) _
          refine XS.iloadN X0.here hx rfl (hb hby d4_61) rfl ?_
          show Steps p.tables e below (s₁.setTop (mkF m 62 #[.val (.int ((((p1.toUInt32 >>> ((16 : Int32) &&& 31).toUInt32).toInt32).toUInt32 >>> ((8 : Int32) &&& 31).toUInt32).toInt32)), .val (.int (7 : Int32))] [(.int ((((p1.toUInt32 >>> ((16 : Int32) &&& 31).toUInt32).toInt32).toUInt32 >>> ((8 : Int32) &&& 31).toUInt32).toInt32))])) _
          refine XS.iconst X0.here hx rfl (hb hby d4_62) ?_
          show Steps p.tables e below (s₁.setTop (mkF m 63 #[.val (.int ((((p1.toUInt32 >>> ((16 : Int32) &&& 31).toUInt32).toInt32).toUInt32 >>> ((8 : Int32) &&& 31).toUInt32).toInt32)), .val (.int (7 : Int32))] [(.int (4 : Int32)), (.int ((((p1.toUInt32 >>> ((16 : Int32) &&& 31).toUInt32).toInt32).toUInt32 >>> ((8 : Int32) &&& 31).toUInt32).toInt32))])) _
          exact k
        by_cases hc30 : ((((p1.toUInt32 >>> ((16 : Int32) &&& 31).toUInt32).toInt32).toUInt32 >>> ((8 : Int32) &&& 31).toUInt32).toInt32) < (4 : Int32)
        · skip
          obtain ⟨fs, hr, hrun, hended, hW, hsame⟩ := X0.leave (v := some (.int ((7 : Int32) - ((((((p1.toUInt32 >>> ((16 : Int32) &&& 31).toUInt32).toInt32).toUInt32 >>> ((8 : Int32) &&& 31).toUInt32).toInt32).toUInt32 >>> ((1 : Int32) &&& 31).toUInt32).toInt32)))) (fun h => by rw [Bd.returns] at h; cases h)
          refine ⟨_, _, pw29 _ ?_, hrun, hended, _, _, rfl, ?_, ⟨_, rfl⟩, hW, hsame.mono (by decide) (by decide)⟩
          · skip
            refine XS.icmpYes X0.here hx rfl (pc0 := 63) (pc' := 73) rfl (hb hby d4_63) rfl (tlt hc30).1 (by decide) (by decide) ?_
            show Steps p.tables e below (s₁.setTop (mkF m 73 #[.val (.int ((((p1.toUInt32 >>> ((16 : Int32) &&& 31).toUInt32).toInt32).toUInt32 >>> ((8 : Int32) &&& 31).toUInt32).toInt32)), .val (.int (7 : Int32))] [])) _
            refine XS.iloadN X0.here hx rfl (hb hby d4_73) rfl ?_
            show Steps p.tables e below (s₁.setTop (mkF m 74 #[.val (.int ((((p1.toUInt32 >>> ((16 : Int32) &&& 31).toUInt32).toInt32).toUInt32 >>> ((8 : Int32) &&& 31).toUInt32).toInt32)), .val (.int (7 : Int32))] [(.int (7 : Int32))])) _
            refine XS.iloadN X0.here hx rfl (hb hby d4_74) rfl ?_
            show Steps p.tables e below (s₁.setTop (mkF m 75 #[.val (.int ((((p1.toUInt32 >>> ((16 : Int32) &&& 31).toUInt32).toInt32).toUInt32 >>> ((8 : Int32) &&& 31).toUInt32).toInt32)), .val (.int (7 : Int32))] [(.int ((((p1.toUInt32 >>> ((16 : Int32) &&& 31).toUInt32).toInt32).toUInt32 >>> ((8 : Int32) &&& 31).toUInt32).toInt32)), (.int (7 : Int32))])) _
            refine XS.iconst X0.here hx rfl (hb hby d4_75) ?_
            show Steps p.tables e below (s₁.setTop (mkF m 76 #[.val (.int ((((p1.toUInt32 >>> ((16 : Int32) &&& 31).toUInt32).toInt32).toUInt32 >>> ((8 : Int32) &&& 31).toUInt32).toInt32)), .val (.int (7 : Int32))] [(.int (1 : Int32)), (.int ((((p1.toUInt32 >>> ((16 : Int32) &&& 31).toUInt32).toInt32).toUInt32 >>> ((8 : Int32) &&& 31).toUInt32).toInt32)), (.int (7 : Int32))])) _
            refine XS.iushr X0.here hx rfl (hb hby d4_76) rfl ?_
            show Steps p.tables e below (s₁.setTop (mkF m 77 #[.val (.int ((((p1.toUInt32 >>> ((16 : Int32) &&& 31).toUInt32).toInt32).toUInt32 >>> ((8 : Int32) &&& 31).toUInt32).toInt32)), .val (.int (7 : Int32))] [(.int ((((((p1.toUInt32 >>> ((16 : Int32) &&& 31).toUInt32).toInt32).toUInt32 >>> ((8 : Int32) &&& 31).toUInt32).toInt32).toUInt32 >>> ((1 : Int32) &&& 31).toUInt32).toInt32)), (.int (7 : Int32))])) _
            refine XS.isub X0.here hx rfl (hb hby d4_77) rfl ?_
            show Steps p.tables e below (s₁.setTop (mkF m 78 #[.val (.int ((((p1.toUInt32 >>> ((16 : Int32) &&& 31).toUInt32).toInt32).toUInt32 >>> ((8 : Int32) &&& 31).toUInt32).toInt32)), .val (.int (7 : Int32))] [(.int ((7 : Int32) - ((((((p1.toUInt32 >>> ((16 : Int32) &&& 31).toUInt32).toInt32).toUInt32 >>> ((8 : Int32) &&& 31).toUInt32).toInt32).toUInt32 >>> ((1 : Int32) &&& 31).toUInt32).toInt32)))])) _
            exact retI X0 hx Bd.returns (hb hby d4_78) hr
          · show Q_4 Z p1 r h0 n0 _ s₁.heap _
            rw [e0]
            exact ⟨by rw [← hsp]; unfold own_n0; rw [if_neg hc4]; unfold own_n1; rw [if_neg hc20]; unfold own_n2; rw [if_pos hc28]; unfold own_n3; rw [if_pos hc30]; rfl, N0, rfl⟩
        · skip
          obtain ⟨fs, hr, hrun, hended, hW, hsame⟩ := X0.leave (v := some (.int ((5 : Int32) - ((((((((p1.toUInt32 >>> ((16 : Int32) &&& 31).toUInt32).toInt32).toUInt32 >>> ((8 : Int32) &&& 31).toUInt32).toInt32).toUInt32 >>> ((2 : Int32) &&& 31).toUInt32).toInt32).toUInt32 >>> ((1 : Int32) &&& 31).toUInt32).toInt32)))) (fun h => by rw [Bd.returns] at h; cases h)
          refine ⟨_, _, pw29 _ ?_, hrun, hended, _, _, rfl, ?_, ⟨_, rfl⟩, hW, hsame.mono (by decide) (by decide)⟩
          · skip
            refine XS.icmpNo X0.here hx rfl (hb hby d4_63) rfl (flt hc30).1 ?_
            show Steps p.tables e below (s₁.setTop (mkF m 66 #[.val (.int ((((p1.toUInt32 >>> ((16 : Int32) &&& 31).toUInt32).toInt32).toUInt32 >>> ((8 : Int32) &&& 31).toUInt32).toInt32)), .val (.int (7 : Int32))] [])) _
            refine XS.iinc X0.here hx rfl (hb hby d4_66) rfl (l' := #[.val (.int ((((p1.toUInt32 >>> ((16 : Int32) &&& 31).toUInt32).toInt32).toUInt32 >>> ((8 : Int32) &&& 31).toUInt32).toInt32)), .val (.int (5 : Int32))]) rfl ?_
            show Steps p.tables e below (s₁.setTop (mkF m 69 #[.val (.int ((((p1.toUInt32 >>> ((16 : Int32) &&& 31).toUInt32).toInt32).toUInt32 >>> ((8 : Int32) &&& 31).toUInt32).toInt32)), .val (.int (5 : Int32))] [])) _
            refine XS.iloadN X0.here hx rfl (hb hby d4_69) rfl ?_
            show Steps p.tables e below (s₁.setTop (mkF m 70 #[.val (.int ((((p1.toUInt32 >>> ((16 : Int32) &&& 31).toUInt32).toInt32).toUInt32 >>> ((8 : Int32) &&& 31).toUInt32).toInt32)), .val (.int (5 : Int32))] [(.int ((((p1.toUInt32 >>> ((16 : Int32) &&& 31).toUInt32).toInt32).toUInt32 >>> ((8 : Int32) &&& 31).toUInt32).toInt32))])) _
            refine XS.iconst X0.here hx rfl (hb hby d4_70) ?_
            show Steps p.tables e below (s₁.setTop (mkF m 71 #[.val (.int ((((p1.toUInt32 >>> ((16 : Int32) &&& 31).toUInt32).toInt32).toUInt32 >>> ((8 : Int32) &&& 31).toUInt32).toInt32)), .val (.int (5 : Int32))] [(.int (2 : Int32)), (.int ((((p1.toUInt32 >>> ((16 : Int32) &&& 31).toUInt32).toInt32).toUInt32 >>> ((8 : Int32) &&& 31).toUInt32).toInt32))])) _
            refine XS.iushr X0.here hx rfl (hb hby d4_71) rfl ?_
            show Steps p.tables e below (s₁.setTop (mkF m 72 #[.val (.int ((((p1.toUInt32 >>> ((16 : Int32) &&& 31).toUInt32).toInt32).toUInt32 >>> ((8 : Int32) &&& 31).toUInt32).toInt32)), .val (.int (5 : Int32))] [(.int ((((((p1.toUInt32 >>> ((16 : Int32) &&& 31).toUInt32).toInt32).toUInt32 >>> ((8 : Int32) &&& 31).toUInt32).toInt32).toUInt32 >>> ((2 : Int32) &&& 31).toUInt32).toInt32))])) _
            refine XS.istoreN X0.here hx rfl (hb hby d4_72) rfl (l' := #[.val (.int ((((((p1.toUInt32 >>> ((16 : Int32) &&& 31).toUInt32).toInt32).toUInt32 >>> ((8 : Int32) &&& 31).toUInt32).toInt32).toUInt32 >>> ((2 : Int32) &&& 31).toUInt32).toInt32)), .val (.int (5 : Int32))]) rfl ?_
            show Steps p.tables e below (s₁.setTop (mkF m 73 #[.val (.int ((((((p1.toUInt32 >>> ((16 : Int32) &&& 31).toUInt32).toInt32).toUInt32 >>> ((8 : Int32) &&& 31).toUInt32).toInt32).toUInt32 >>> ((2 : Int32) &&& 31).toUInt32).toInt32)), .val (.int (5 : Int32))] [])) _
            refine XS.iloadN X0.here hx rfl (hb hby d4_73) rfl ?_
            show Steps p.tables e below (s₁.setTop (mkF m 74 #[.val (.int ((((((p1.toUInt32 >>> ((16 : Int32) &&& 31).toUInt32).toInt32).toUInt32 >>> ((8 : Int32) &&& 31).toUInt32).toInt32).toUInt32 >>> ((2 : Int32) &&& 31).toUInt32).toInt32)), .val (.int (5 : Int32))] [(.int (5 : Int32))])) _
            refine XS.iloadN X0.here hx rfl (hb hby d4_74) rfl ?_
            show Steps p.tables e below (s₁.setTop (mkF m 75 #[.val (.int ((((((p1.toUInt32 >>> ((16 : Int32) &&& 31).toUInt32).toInt32).toUInt32 >>> ((8 : Int32) &&& 31).toUInt32).toInt32).toUInt32 >>> ((2 : Int32) &&& 31).toUInt32).toInt32)), .val (.int (5 : Int32))] [(.int ((((((p1.toUInt32 >>> ((16 : Int32) &&& 31).toUInt32).toInt32).toUInt32 >>> ((8 : Int32) &&& 31).toUInt32).toInt32).toUInt32 >>> ((2 : Int32) &&& 31).toUInt32).toInt32)), (.int (5 : Int32))])) _
            refine XS.iconst X0.here hx rfl (hb hby d4_75) ?_
            show Steps p.tables e below (s₁.setTop (mkF m 76 #[.val (.int ((((((p1.toUInt32 >>> ((16 : Int32) &&& 31).toUInt32).toInt32).toUInt32 >>> ((8 : Int32) &&& 31).toUInt32).toInt32).toUInt32 >>> ((2 : Int32) &&& 31).toUInt32).toInt32)), .val (.int (5 : Int32))] [(.int (1 : Int32)), (.int ((((((p1.toUInt32 >>> ((16 : Int32) &&& 31).toUInt32).toInt32).toUInt32 >>> ((8 : Int32) &&& 31).toUInt32).toInt32).toUInt32 >>> ((2 : Int32) &&& 31).toUInt32).toInt32)), (.int (5 : Int32))])) _
            refine XS.iushr X0.here hx rfl (hb hby d4_76) rfl ?_
            show Steps p.tables e below (s₁.setTop (mkF m 77 #[.val (.int ((((((p1.toUInt32 >>> ((16 : Int32) &&& 31).toUInt32).toInt32).toUInt32 >>> ((8 : Int32) &&& 31).toUInt32).toInt32).toUInt32 >>> ((2 : Int32) &&& 31).toUInt32).toInt32)), .val (.int (5 : Int32))] [(.int ((((((((p1.toUInt32 >>> ((16 : Int32) &&& 31).toUInt32).toInt32).toUInt32 >>> ((8 : Int32) &&& 31).toUInt32).toInt32).toUInt32 >>> ((2 : Int32) &&& 31).toUInt32).toInt32).toUInt32 >>> ((1 : Int32) &&& 31).toUInt32).toInt32)), (.int (5 : Int32))])) _
            refine XS.isub X0.here hx rfl (hb hby d4_77) rfl ?_
            show Steps p.tables e below (s₁.setTop (mkF m 78 #[.val (.int ((((((p1.toUInt32 >>> ((16 : Int32) &&& 31).toUInt32).toInt32).toUInt32 >>> ((8 : Int32) &&& 31).toUInt32).toInt32).toUInt32 >>> ((2 : Int32) &&& 31).toUInt32).toInt32)), .val (.int (5 : Int32))] [(.int ((5 : Int32) - ((((((((p1.toUInt32 >>> ((16 : Int32) &&& 31).toUInt32).toInt32).toUInt32 >>> ((8 : Int32) &&& 31).toUInt32).toInt32).toUInt32 >>> ((2 : Int32) &&& 31).toUInt32).toInt32).toUInt32 >>> ((1 : Int32) &&& 31).toUInt32).toInt32)))])) _
            exact retI X0 hx Bd.returns (hb hby d4_78) hr
          · show Q_4 Z p1 r h0 n0 _ s₁.heap _
            rw [e0]
            exact ⟨by rw [← hsp]; unfold own_n0; rw [if_neg hc4]; unfold own_n1; rw [if_neg hc20]; unfold own_n2; rw [if_pos hc28]; unfold own_n3; rw [if_neg hc30]; rfl, N0, rfl⟩
      · skip
        have pw31 : ∀ t, Steps p.tables e below (s₁.setTop (mkF m 63 #[.val (.int ((((((p1.toUInt32 >>> ((16 : Int32) &&& 31).toUInt32).toInt32).toUInt32 >>> ((8 : Int32) &&& 31).toUInt32).toInt32).toUInt32 >>> ((4 : Int32) &&& 31).toUInt32).toInt32)), .val (.int (3 : Int32))] [(.int (4 : Int32)), (.int ((((((p1.toUInt32 >>> ((16 : Int32) &&& 31).toUInt32).toInt32).toUInt32 >>> ((8 : Int32) &&& 31).toUInt32).toInt32).toUInt32 >>> ((4 : Int32) &&& 31).toUInt32).toInt32))])) t → Steps p.tables e below (s₁.setTop (entryFrame m #[(.int p1)] 2)) t := by
          intro t k
          refine pw27 t ?_
          refine XS.icmpNo X0.here hx rfl (hb hby d4_51) rfl (flt hc28).1 ?_
          show Steps p.tables e below (s₁.setTop (mkF m 54 #[.val (.int ((((p1.toUInt32 >>> ((16 : Int32) &&& 31).toUInt32).toInt32).toUInt32 >>> ((8 : Int32) &&& 31).toUInt32).toInt32)), .val (.int (7 : Int32))] [])) _
          refine XS.iinc X0.here hx rfl (hb hby d4_54) rfl (l' := #[.val (.int ((((p1.toUInt32 >>> ((16 : Int32) &&& 31).toUInt32).toInt32).toUInt32 >>> ((8 : Int32) &&& 31).toUInt32).toInt32)), .val (.int (3 : Int32))]) rfl ?_
          show Steps p.tables e below (s₁.setTop (mkF m 57 #[.val (.int ((((p1.toUInt32 >>> ((16 : Int32) &&& 31).toUInt32).toInt32).toUInt32 >>> ((8 : Int32) &&& 31).toUInt32).toInt32)), .val (.int (3 : Int32))] [])) _
          refine XS.iloadN X0.here hx rfl (hb hby d4_57) rfl ?_
          show Steps p.tables e below (s₁.setTop (mkF m 58 #[.val (.int ((((p1.toUInt32 >>> ((16 : Int32) &&& 31).toUInt32).toInt32).toUInt32 >>> ((8 : Int32) &&& 31).toUInt32).toInt32)), .val (.int (3 : Int32))] [(.int ((((p1.toUInt32 >>> ((16 : Int32) &&& 31).toUInt32).toInt32).toUInt32 >>> ((8 : Int32) &&& 31).toUInt32).toInt32))])) _
          refine XS.iconst X0.here hx rfl (hb hby d4_58) ?_
          show Steps p.tables e below (s₁.setTop (mkF m 59 #[.val (.int ((((p1.toUInt32 >>> ((16 : Int32) &&& 31).toUInt32).toInt32).toUInt32 >>> ((8 : Int32) &&& 31).toUInt32).toInt32)), .val (.int (3 : Int32))] [(.int (4 : Int32)), (.int ((((p1.toUInt32 >>> ((16 : Int32) &&& 31).toUInt32).toInt32).toUInt32 >>> ((8 : Int32) &&& 31).toUInt32).toInt32))])) _
          refine XS.iushr X0.here hx rfl (hb hby d4_59) rfl ?_
          show Steps p.tables e below (s₁.setTop (mkF m 60 #[.val (.int ((((p1.toUInt32 >>> ((16 : Int32) &&& 31).toUInt32).toInt32).toUInt32 >>> ((8 : Int32) &&& 31).toUInt32).toInt32)), .val (.int (3 : Int32))] [(.int ((((((p1.toUInt32 >>> ((16 : Int32) &&& 31).toUInt32).toInt32).toUInt32 >>> ((8 : Int32) &&& 31).toUInt32).toInt32).toUInt32 >>> ((4 : Int32) &&& 31).toUInt32).toInt32))])) _
          refine XS.istoreN X0.here hx rfl (hb hby d4_60) rfl (l' := #[.val (.int ((((((p1.toUInt32 >>> ((16 : Int32) &&& 31).toUInt32).toInt32).toUInt32 >>> ((8 : Int32) &&& 31).toUInt32).toInt32).toUInt32 >>> ((4 : Int32) &&& 31).toUInt32).toInt32)), .val (.int (3 : Int32))]) rfl ?_
          show Steps p.tables e below (s₁.setTop (mkF m 61 #[.val (.int ((((((p1.toUInt32 >>> ((16 : Int32) &&& 31).toUInt32).toInt32).toUInt32 >>> ((8 : Int32) &&& 31).toUInt32).toInt32).toUInt32 >>> ((4 : Int32) &&& 31).toUInt32).toInt32)), .val (.int (3 : Int32))] [])) _
          refine XS.iloadN X0.here hx rfl (hb hby d4_61) rfl ?_
          show Steps p.tables e below (s₁.setTop (mkF m 62 #[.val (.int ((((((p1.toUInt32 >>> ((16 : Int32) &&& 31).toUInt32).toInt32).toUInt32 >>> ((8 : Int32) &&& 31).toUInt32).toInt32).toUInt32 >>> ((4 : Int32) &&& 31).toUInt32).toInt32)), .val (.int (3 : Int32))] [(.int ((((((p1.toUInt32 >>> ((16 : Int32) &&& 31).toUInt32).toInt32).toUInt32 >>> ((8 : Int32) &&& 31).toUInt32).toInt32).toUInt32 >>> ((4 : Int32) &&& 31).toUInt32).toInt32))])) _
          refine XS.iconst X0.here hx rfl (hb hby d4_62) ?_
          show Steps p.tables e below (s₁.setTop (mkF m 63 #[.val (.int ((((((p1.toUInt32 >>> ((16 : Int32) &&& 31).toUInt32).toInt32).toUInt32 >>> ((8 : Int32) &&& 31).toUInt32).toInt32).toUInt32 >>> ((4 : Int32) &&& 31).toUInt32).toInt32)), .val (.int (3 : Int32))] [(.int (4 : Int32)), (.int ((((((p1.toUInt32 >>> ((16 : Int32) &&& 31).toUInt32).toInt32).toUInt32 >>> ((8 : Int32) &&& 31).toUInt32).toInt32).toUInt32 >>> ((4 : Int32) &&& 31).toUInt32).toInt32))])) _
          exact k
        by_cases hc32 : ((((((p1.toUInt32 >>> ((16 : Int32) &&& 31).toUInt32).toInt32).toUInt32 >>> ((8 : Int32) &&& 31).toUInt32).toInt32).toUInt32 >>> ((4 : Int32) &&& 31).toUInt32).toInt32) < (4 : Int32)
        · skip
          obtain ⟨fs, hr, hrun, hended, hW, hsame⟩ := X0.leave (v := some (.int ((3 : Int32) - ((((((((p1.toUInt32 >>> ((16 : Int32) &&& 31).toUInt32).toInt32).toUInt32 >>> ((8 : Int32) &&& 31).toUInt32).toInt32).toUInt32 >>> ((4 : Int32) &&& 31).toUInt32).toInt32).toUInt32 >>> ((1 : Int32) &&& 31).toUInt32).toInt32)))) (fun h => by rw [Bd.returns] at h; cases h)
          refine ⟨_, _, pw31 _ ?_, hrun, hended, _, _, rfl, ?_, ⟨_, rfl⟩, hW, hsame.mono (by decide) (by decide)⟩
          · skip
            refine XS.icmpYes X0.here hx rfl (pc0 := 63) (pc' := 73) rfl (hb hby d4_63) rfl (tlt hc32).1 (by decide) (by decide) ?_
            show Steps p.tables e below (s₁.setTop (mkF m 73 #[.val (.int ((((((p1.toUInt32 >>> ((16 : Int32) &&& 31).toUInt32).toInt32).toUInt32 >>> ((8 : Int32) &&& 31).toUInt32).toInt32).toUInt32 >>> ((4 : Int32) &&& 31).toUInt32).toInt32)), .val (.int (3 : Int32))] [])) _
            refine XS.iloadN X0.here hx rfl (hb hby d4_73) rfl ?_
            show Steps p.tables e below (s₁.setTop (mkF m 74 #[.val (.int ((((((p1.toUInt32 >>> ((16 : Int32) &&& 31).toUInt32).toInt32).toUInt32 >>> ((8 : Int32) &&& 31).toUInt32).toInt32).toUInt32 >>> ((4 : Int32) &&& 31).toUInt32).toInt32)), .val (.int (3 : Int32))] [(.int (3 : Int32))])) _
            refine XS.iloadN X0.here hx rfl (hb hby d4_74) rfl ?_
            show Steps p.tables e below (s₁.setTop (mkF m 75 #[.val (.int ((((((p1.toUInt32 >>> ((16 : Int32) &&& 31).toUInt32).toInt32).toUInt32 >>> ((8 : Int32) &&& 31).toUInt32).toInt32).toUInt32 >>> ((4 : Int32) &&& 31).toUInt32).toInt32)), .val (.int (3 : Int32))] [(.int ((((((p1.toUInt32 >>> ((16 : Int32) &&& 31).toUInt32).toInt32).toUInt32 >>> ((8 : Int32) &&& 31).toUInt32).toInt32).toUInt32 >>> ((4 : Int32) &&& 31).toUInt32).toInt32)), (.int (3 : Int32))])) _
            refine XS.iconst X0.here hx rfl (hb hby d4_75) ?_
            show Steps p.tables e below (s₁.setTop (mkF m 76 #[.val (.int ((((((p1.toUInt32 >>> ((16 : Int32) &&& 31).toUInt32).toInt32).toUInt32 >>> ((8 : Int32) &&& 31).toUInt32).toInt32).toUInt32 >>> ((4 : Int32) &&& 31).toUInt32).toInt32)), .val (.int (3 : Int32))] [(.int (1 : Int32)), (.int ((((((p1.toUInt32 >>> ((16 : Int32) &&& 31).toUInt32).toInt32).toUInt32 >>> ((8 : Int32) &&& 31).toUInt32).toInt32).toUInt32 >>> ((4 : Int32) &&& 31).toUInt32).toInt32)), (.int (3 : Int32))])) _
            refine XS.iushr X0.here hx rfl (hb hby d4_76) rfl ?_
            show Steps p.tables e below (s₁.setTop (mkF m 77 #[.val (.int ((((((p1.toUInt32 >>> ((16 : Int32) &&& 31).toUInt32).toInt32).toUInt32 >>> ((8 : Int32) &&& 31).toUInt32).toInt32).toUInt32 >>> ((4 : Int32) &&& 31).toUInt32).toInt32)), .val (.int (3 : Int32))] [(.int ((((((((p1.toUInt32 >>> ((16 : Int32) &&& 31).toUInt32).toInt32).toUInt32 >>> ((8 : Int32) &&& 31).toUInt32).toInt32).toUInt32 >>> ((4 : Int32) &&& 31).toUInt32).toInt32).toUInt32 >>> ((1 : Int32) &&& 31).toUInt32).toInt32)), (.int (3 : Int32))])) _
            refine XS.isub X0.here hx rfl (hb hby d4_77) rfl ?_
            show Steps p.tables e below (s₁.setTop (mkF m 78 #[.val (.int ((((((p1.toUInt32 >>> ((16 : Int32) &&& 31).toUInt32).toInt32).toUInt32 >>> ((8 : Int32) &&& 31).toUInt32).toInt32).toUInt32 >>> ((4 : Int32) &&& 31).toUInt32).toInt32)), .val (.int (3 : Int32))] [(.int ((3 : Int32) - ((((((((p1.toUInt32 >>> ((16 : Int32) &&& 31).toUInt32).toInt32).toUInt32 >>> ((8 : Int32) &&& 31).toUInt32).toInt32).toUInt32 >>> ((4 : Int32) &&& 31).toUInt32).toInt32).toUInt32 >>> ((1 : Int32) &&& 31).toUInt32).toInt32)))])) _
            exact retI X0 hx Bd.returns (hb hby d4_78) hr
          · show Q_4 Z p1 r h0 n0 _ s₁.heap _
            rw [e0]
            exact ⟨by rw [← hsp]; unfold own_n0; rw [if_neg hc4]; unfold own_n1; rw [if_neg hc20]; unfold own_n2; rw [if_neg hc28]; unfold own_n3; rw [if_pos hc32]; rfl, N0, rfl⟩
        · skip
          obtain ⟨fs, hr, hrun, hended, hW, hsame⟩ := X0.leave (v := some (.int ((1 : Int32) - ((((((((((p1.toUInt32 >>> ((16 : Int32) &&& 31).toUInt32).toInt32).toUInt32 >>> ((8 : Int32) &&& 31).toUInt32).toInt32).toUInt32 >>> ((4 : Int32) &&& 31).toUInt32).toInt32).toUInt32 >>> ((2 : Int32) &&& 31).toUInt32).toInt32).toUInt32 >>> ((1 : Int32) &&& 31).toUInt32).toInt32)))) (fun h => by rw [Bd.returns] at h; cases h)
          refine ⟨_, _, pw31 _ ?_, hrun, hended, _, _, rfl, ?_, ⟨_, rfl⟩, hW, hsame.mono (by decide) (by decide)⟩
          · skip
            refine XS.icmpNo X0.here hx rfl (hb hby d4_63) rfl (flt hc32).1 ?_
            show Steps p.tables e below (s₁.setTop (mkF m 66 #[.val (.int ((((((p1.toUInt32 >>> ((16 : Int32) &&& 31).toUInt32).toInt32).toUInt32 >>> ((8 : Int32) &&& 31).toUInt32).toInt32).toUInt32 >>> ((4 : Int32) &&& 31).toUInt32).toInt32)), .val (.int (3 : Int32))] [])) _
            refine XS.iinc X0.here hx rfl (hb hby d4_66) rfl (l' := #[.val (.int ((((((p1.toUInt32 >>> ((16 : Int32) &&& 31).toUInt32).toInt32).toUInt32 >>> ((8 : Int32) &&& 31).toUInt32).toInt32).toUInt32 >>> ((4 : Int32) &&& 31).toUInt32).toInt32)), .val (.int (1 : Int32))]) rfl ?_
            show Steps p.tables e below (s₁.setTop (mkF m 69 #[.val (.int ((((((p1.toUInt32 >>> ((16 : Int32) &&& 31).toUInt32).toInt32).toUInt32 >>> ((8 : Int32) &&& 31).toUInt32).toInt32).toUInt32 >>> ((4 : Int32) &&& 31).toUInt32).toInt32)), .val (.int (1 : Int32))] [])) _
            refine XS.iloadN X0.here hx rfl (hb hby d4_69) rfl ?_
            show Steps p.tables e below (s₁.setTop (mkF m 70 #[.val (.int ((((((p1.toUInt32 >>> ((16 : Int32) &&& 31).toUInt32).toInt32).toUInt32 >>> ((8 : Int32) &&& 31).toUInt32).toInt32).toUInt32 >>> ((4 : Int32) &&& 31).toUInt32).toInt32)), .val (.int (1 : Int32))] [(.int ((((((p1.toUInt32 >>> ((16 : Int32) &&& 31).toUInt32).toInt32).toUInt32 >>> ((8 : Int32) &&& 31).toUInt32).toInt32).toUInt32 >>> ((4 : Int32) &&& 31).toUInt32).toInt32))])) _
            refine XS.iconst X0.here hx rfl (hb hby d4_70) ?_
            show Steps p.tables e below (s₁.setTop (mkF m 71 #[.val (.int ((((((p1.toUInt32 >>> ((16 : Int32) &&& 31).toUInt32).toInt32).toUInt32 >>> ((8 : Int32) &&& 31).toUInt32).toInt32).toUInt32 >>> ((4 : Int32) &&& 31).toUInt32).toInt32)), .val (.int (1 : Int32))] [(.int (2 : Int32)), (.int ((((((p1.toUInt32 >>> ((16 : Int32) &&& 31).toUInt32).toInt32).toUInt32 >>> ((8 : Int32) &&& 31).toUInt32).toInt32).toUInt32 >>> ((4 : Int32) &&& 31).toUInt32).toInt32))])) _
            refine XS.iushr X0.here hx rfl (hb hby d4_71) rfl ?_
            show Steps p.tables e below (s₁.setTop (mkF m 72 #[.val (.int ((((((p1.toUInt32 >>> ((16 : Int32) &&& 31).toUInt32).toInt32).toUInt32 >>> ((8 : Int32) &&& 31).toUInt32).toInt32).toUInt32 >>> ((4 : Int32) &&& 31).toUInt32).toInt32)), .val (.int (1 : Int32))] [(.int ((((((((p1.toUInt32 >>> ((16 : Int32) &&& 31).toUInt32).toInt32).toUInt32 >>> ((8 : Int32) &&& 31).toUInt32).toInt32).toUInt32 >>> ((4 : Int32) &&& 31).toUInt32).toInt32).toUInt32 >>> ((2 : Int32) &&& 31).toUInt32).toInt32))])) _
            refine XS.istoreN X0.here hx rfl (hb hby d4_72) rfl (l' := #[.val (.int ((((((((p1.toUInt32 >>> ((16 : Int32) &&& 31).toUInt32).toInt32).toUInt32 >>> ((8 : Int32) &&& 31).toUInt32).toInt32).toUInt32 >>> ((4 : Int32) &&& 31).toUInt32).toInt32).toUInt32 >>> ((2 : Int32) &&& 31).toUInt32).toInt32)), .val (.int (1 : Int32))]) rfl ?_
            show Steps p.tables e below (s₁.setTop (mkF m 73 #[.val (.int ((((((((p1.toUInt32 >>> ((16 : Int32) &&& 31).toUInt32).toInt32).toUInt32 >>> ((8 : Int32) &&& 31).toUInt32).toInt32).toUInt32 >>> ((4 : Int32) &&& 31).toUInt32).toInt32).toUInt32 >>> ((2 : Int32) &&& 31).toUInt32).toInt32)), .val (.int (1 : Int32))] [])) _
            refine XS.iloadN X0.here hx rfl (hb hby d4_73) rfl ?_
            show Steps p.tables e below (s₁.setTop (mkF m 74 #[.val (.int ((((((((p1.toUInt32 >>> ((16 : Int32) &&& 31).toUInt32).toInt32).toUInt32 >>> ((8 : Int32) &&& 31).toUInt32).toInt32).toUInt32 >>> ((4 : Int32) &&& 31).toUInt32).toInt32).toUInt32 >>> ((2 : Int32) &&& 31).toUInt32).toInt32)), .val (.int (1 : Int32))] [(.int (1 : Int32))])) _
            refine XS.iloadN X0.here hx rfl (hb hby d4_74) rfl ?_
            show Steps p.tables e below (s₁.setTop (mkF m 75 #[.val (.int ((((((((p1.toUInt32 >>> ((16 : Int32) &&& 31).toUInt32).toInt32).toUInt32 >>> ((8 : Int32) &&& 31).toUInt32).toInt32).toUInt32 >>> ((4 : Int32) &&& 31).toUInt32).toInt32).toUInt32 >>> ((2 : Int32) &&& 31).toUInt32).toInt32)), .val (.int (1 : Int32))] [(.int ((((((((p1.toUInt32 >>> ((16 : Int32) &&& 31).toUInt32).toInt32).toUInt32 >>> ((8 : Int32) &&& 31).toUInt32).toInt32).toUInt32 >>> ((4 : Int32) &&& 31).toUInt32).toInt32).toUInt32 >>> ((2 : Int32) &&& 31).toUInt32).toInt32)), (.int (1 : Int32))])) _
            refine XS.iconst X0.here hx rfl (hb hby d4_75) ?_
            show Steps p.tables e below (s₁.setTop (mkF m 76 #[.val (.int ((((((((p1.toUInt32 >>> ((16 : Int32) &&& 31).toUInt32).toInt32).toUInt32 >>> ((8 : Int32) &&& 31).toUInt32).toInt32).toUInt32 >>> ((4 : Int32) &&& 31).toUInt32).toInt32).toUInt32 >>> ((2 : Int32) &&& 31).toUInt32).toInt32)), .val (.int (1 : Int32))] [(.int (1 : Int32)), (.int ((((((((p1.toUInt32 >>> ((16 : Int32) &&& 31).toUInt32).toInt32).toUInt32 >>> ((8 : Int32) &&& 31).toUInt32).toInt32).toUInt32 >>> ((4 : Int32) &&& 31).toUInt32).toInt32).toUInt32 >>> ((2 : Int32) &&& 31).toUInt32).toInt32)), (.int (1 : Int32))])) _
            refine XS.iushr X0.here hx rfl (hb hby d4_76) rfl ?_
            show Steps p.tables e below (s₁.setTop (mkF m 77 #[.val (.int ((((((((p1.toUInt32 >>> ((16 : Int32) &&& 31).toUInt32).toInt32).toUInt32 >>> ((8 : Int32) &&& 31).toUInt32).toInt32).toUInt32 >>> ((4 : Int32) &&& 31).toUInt32).toInt32).toUInt32 >>> ((2 : Int32) &&& 31).toUInt32).toInt32)), .val (.int (1 : Int32))] [(.int ((((((((((p1.toUInt32 >>> ((16 : Int32) &&& 31).toUInt32).toInt32).toUInt32 >>> ((8 : Int32) &&& 31).toUInt32).toInt32).toUInt32 >>> ((4 : Int32) &&& 31).toUInt32).toInt32).toUInt32 >>> ((2 : Int32) &&& 31).toUInt32).toInt32).toUInt32 >>> ((1 : Int32) &&& 31).toUInt32).toInt32)), (.int (1 : Int32))])) _
            refine XS.isub X0.here hx rfl (hb hby d4_77) rfl ?_
            show Steps p.tables e below (s₁.setTop (mkF m 78 #[.val (.int ((((((((p1.toUInt32 >>> ((16 : Int32) &&& 31).toUInt32).toInt32).toUInt32 >>> ((8 : Int32) &&& 31).toUInt32).toInt32).toUInt32 >>> ((4 : Int32) &&& 31).toUInt32).toInt32).toUInt32 >>> ((2 : Int32) &&& 31).toUInt32).toInt32)), .val (.int (1 : Int32))] [(.int ((1 : Int32) - ((((((((((p1.toUInt32 >>> ((16 : Int32) &&& 31).toUInt32).toInt32).toUInt32 >>> ((8 : Int32) &&& 31).toUInt32).toInt32).toUInt32 >>> ((4 : Int32) &&& 31).toUInt32).toInt32).toUInt32 >>> ((2 : Int32) &&& 31).toUInt32).toInt32).toUInt32 >>> ((1 : Int32) &&& 31).toUInt32).toInt32)))])) _
            exact retI X0 hx Bd.returns (hb hby d4_78) hr
          · show Q_4 Z p1 r h0 n0 _ s₁.heap _
            rw [e0]
            exact ⟨by rw [← hsp]; unfold own_n0; rw [if_neg hc4]; unfold own_n1; rw [if_neg hc20]; unfold own_n2; rw [if_neg hc28]; unfold own_n3; rw [if_neg hc32]; rfl, N0, rfl⟩
theorem d3_0 : decode jdk_33_method_45_code 0 = .ok (.iload_n 0, 1) := by decide +kernel
theorem d3_1 : decode jdk_33_method_45_code 1 = .ok (.ldc 127, 2) := by decide +kernel
theorem d3_3 : decode jdk_33_method_45_code 3 = .ok (.iload_n 0, 1) := by decide +kernel
theorem d3_4 : decode jdk_33_method_45_code 4 = .ok (.invokestatic 51, 3) := by decide +kernel
theorem d3_7 : decode jdk_33_method_45_code 7 = .ok (.iushr, 1) := by decide +kernel
theorem d3_8 : decode jdk_33_method_45_code 8 = .ok (.iand, 1) := by decide +kernel
theorem d3_9 : decode jdk_33_method_45_code 9 = .ok (.ireturn, 1) := by decide +kernel
theorem ef_3 (m : MethodId) (x0 : Int32) : entryFrame m #[(.int x0)] 1 = mkF m 0 #[.val (.int x0)] [] := by first | (simp [entryFrame, mkF, argsToLocals, Value.category]; done) | rfl
def Q_3 (Z : State) (p1 : Int32) (r : Int32) (h0 : Heap) (n0 : Nat) (v : Option Value) (h : Heap) (L : List Loc) : Prop := v = some (.int r) ∧ Fr n0 L ∧ h = h0
set_option maxRecDepth 65536 in
set_option maxHeartbeats 40000000 in
theorem rm_3 (l : Launch) (Z : State) (a0 : Array Value) (hw : ∀ d ∈ tables_1, d.before a0 Z = true) (ws : List Jvm.Cond) (p1 : Int32) (r : Int32) (h0 : Heap) (n0 : Nat) (Z0 : n0 ≤ h0.size) (hpos : (0 : Int32) < p1) (hsp : own_hob p1 = r) :
    MetFree l (⟨"java/lang/Integer", "highestOneBit", "(I)I"⟩ : MethodName) (head1 (Jvm.Cond.code (⟨"java/lang/Integer", "highestOneBit", "(I)I"⟩ : MethodName) jdk_33_method_45_code 1 (some .int) :: ws) ({ frames := 1, cells := 0, slots := 0, locals := 15 } : Room)) (fun a U => a = #[(.int p1)] ∧ Z.Warmed39 U.vm ∧ U.heap = h0) (fun _ _ _ _ _ => True) (fun _ U o U' => ∃ v L, o = .returned v ∧ Q_3 Z p1 r h0 n0 v U'.heap L ∧ FrameEnd U o U' L ({ frames := 1, cells := 0, slots := 0, locals := 15 } : Room).cells ({ frames := 1, cells := 0, slots := 0, locals := 15 } : Room).slots) := by
  refine MetFree.of_bodySF (plainFor_of_name pn_java_lang_Integer) hisR ?_
  intro p e s m args below meth c s₁ Bd hml0 hP hK
  obtain ⟨rfl, hZ, hh⟩ := hP
  have hx := Bd.exec
  have hby := Bd.bytes
  have hml : c.maxLocals = 1 := hml0
  have hown : s.vm.findClass "java/lang/Integer" = some m.cls := findClass_of_methodNamed Bd.named
  have hnm := (name_of_methodNamed Bd.named Bd.method).1
  have X0 : Stand p l e ({ frames := 1, cells := 0, slots := 0, locals := 15 } : Room) s m #[(.int p1)] below meth c s₁ [] 0 0 := Stand.of_body Bd
  have e0 : s₁.heap = h0 := by rw [← hh, Bd.state]; rfl
  have N0 := Fr.nil n0
  have pw0 : ∀ t, Steps p.tables e below (s₁.setTop (mkF m 0 #[.val (.int p1)] [])) t → Steps p.tables e below (s₁.setTop (entryFrame m #[(.int p1)] 1)) t := fun t k => castTop (ef_3 m p1) k
  have K0 : Keep h0 h0 [] := Keep.refl h0 []
  obtain ⟨_, _, ⟨T33, L33, k33, n33⟩, -, X33, ⟨Lc33, hQ33, l33, y33, z33⟩, st33⟩ := Jvm.LawKit.callS X0 hx (y := (⟨"java/lang/Integer", "numberOfLeadingZeros", "(I)I"⟩ : MethodName)) hown (mvT hZ (hw _ (List.mem_of_getElem? (i := 15) rfl))) (mvT hZ (hw _ (List.mem_of_getElem? (i := 16) rfl))) (mvT hZ (hw _ (List.mem_of_getElem? (i := 12) rfl))) (mvT hZ (hw _ (List.mem_of_getElem? (i := 17) rfl))) (by decide) (backOf (W := 2) (rm_4 l Z a0 hw [] p1 (own_n0 p1) h0 n0 Z0 hpos rfl) hZ (hw _ (List.mem_of_getElem? (i := 17) rfl)) (hw _ (List.mem_of_getElem? (i := 12) rfl)) (by decide) (by decide)) (g := (mkF m 4 #[.val (.int p1)] [(.int p1), (.int (-2147483648 : Int32)), (.int p1)])) rfl (by rw [hml]; rfl) (argsL := [(.int p1)]) (rest := [(.int (-2147483648 : Int32)), (.int p1)]) (lenOf pd__I_I rfl) rfl (by show 2 * 0 + _ ≤ _; exact Nat.le_of_eq rfl) (hb hby d3_4) (fun _ _ => ⟨rfl, e0, (by decide : 0 + 0 ≤ _), (by decide : 0 + 0 ≤ _)⟩)
  dsimp only [Pt.U, Pt.locs, Pt.cells, Pt.slots] at X33 l33 y33 z33 st33 hQ33
  subst l33 y33 z33
  obtain ⟨rfl, N33q, e33q⟩ := hQ33
  have N33 := Fr.app N0 N33q
  obtain ⟨fs, hr, hrun, hended, hW, hsame⟩ := X33.leave (v := some (.int (p1 &&& (((-2147483648 : Int32).toUInt32 >>> ((own_n0 p1) &&& 31).toUInt32).toInt32)))) (fun h => by rw [Bd.returns] at h; cases h)
  refine ⟨_, _, pw0 _ ?_, hrun, hended, _, _, rfl, ?_, ⟨_, rfl⟩, hW, hsame.mono (by decide) (by decide)⟩
  · skip
    refine XS.iloadN X0.here hx rfl (hb hby d3_0) rfl ?_
    show Steps p.tables e below (s₁.setTop (mkF m 1 #[.val (.int p1)] [(.int p1)])) _
    refine X0.ldcInt hx hown (mvT hZ (hw _ (List.mem_of_getElem? (i := 14) rfl))) (g := (mkF m 1 #[.val (.int p1)] [(.int p1)])) rfl (hb hby d3_1) _ ?_
    show Steps p.tables e below (s₁.setTop (mkF m 3 #[.val (.int p1)] [(.int (-2147483648 : Int32)), (.int p1)])) _
    refine XS.iloadN X0.here hx rfl (hb hby d3_3) rfl ?_
    show Steps p.tables e below (s₁.setTop (mkF m 4 #[.val (.int p1)] [(.int p1), (.int (-2147483648 : Int32)), (.int p1)])) _
    refine st33 _ ?_
    show Steps p.tables e below (T33.setTop (mkF m 7 #[.val (.int p1)] [(.int (own_n0 p1)), (.int (-2147483648 : Int32)), (.int p1)])) _
    refine XS.iushr X33.here hx rfl (hb hby d3_7) rfl ?_
    show Steps p.tables e below (T33.setTop (mkF m 8 #[.val (.int p1)] [(.int (((-2147483648 : Int32).toUInt32 >>> ((own_n0 p1) &&& 31).toUInt32).toInt32)), (.int p1)])) _
    refine XS.iand X33.here hx rfl (hb hby d3_8) rfl ?_
    show Steps p.tables e below (T33.setTop (mkF m 9 #[.val (.int p1)] [(.int (p1 &&& (((-2147483648 : Int32).toUInt32 >>> ((own_n0 p1) &&& 31).toUInt32).toInt32)))])) _
    exact retI X33 hx Bd.returns (hb hby d3_9) hr
  · show Q_3 Z p1 r h0 n0 _ T33.heap _
    rw [e33q]
    exact ⟨by rw [← hsp]; rfl, N33, rfl⟩
theorem d1_0 : decode prog_42_method_2_code 0 = .ok (.iconst 1, 1) := by decide +kernel
theorem d1_1 : decode prog_42_method_2_code 1 = .ok (.iconst 4, 1) := by decide +kernel
theorem d1_2 : decode prog_42_method_2_code 2 = .ok (.iload_n 0, 1) := by decide +kernel
theorem d1_3 : decode prog_42_method_2_code 3 = .ok (.imul, 1) := by decide +kernel
theorem d1_4 : decode prog_42_method_2_code 4 = .ok (.iconst 1, 1) := by decide +kernel
theorem d1_5 : decode prog_42_method_2_code 5 = .ok (.isub, 1) := by decide +kernel
theorem d1_6 : decode prog_42_method_2_code 6 = .ok (.invokestatic 9, 3) := by decide +kernel
theorem d1_9 : decode prog_42_method_2_code 9 = .ok (.invokestatic 15, 3) := by decide +kernel
theorem d1_12 : decode prog_42_method_2_code 12 = .ok (.iconst 1, 1) := by decide +kernel
theorem d1_13 : decode prog_42_method_2_code 13 = .ok (.ishl, 1) := by decide +kernel
theorem d1_14 : decode prog_42_method_2_code 14 = .ok (.ireturn, 1) := by decide +kernel
theorem ef_1 (m : MethodId) (x0 : Int32) : entryFrame m #[(.int x0)] 1 = mkF m 0 #[.val (.int x0)] [] := by first | (simp [entryFrame, mkF, argsToLocals, Value.category]; done) | rfl
theorem pn_io_tidecache_OpenAddressing : plainName "io/tidecache/OpenAddressing" = true := by first | (simp [plainName, overriddenIn]; done) | decide +kernel
def Q_1 (Z : State) (p1 : Int32) (r : Int32) (h0 : Heap) (n0 : Nat) (v : Option Value) (h : Heap) (L : List Loc) : Prop := v = some (.int r) ∧ Fr n0 L ∧ h = h0
set_option maxRecDepth 65536 in
set_option maxHeartbeats 40000000 in
theorem rm_1 (l : Launch) (Z : State) (a0 : Array Value) (hw : ∀ d ∈ tables_1, d.before a0 Z = true) (ws : List Jvm.Cond) (p1 : Int32) (r : Int32) (h0 : Heap) (n0 : Nat) (Z0 : n0 ≤ h0.size) (hpos : (0 : Int32) < (own_max (1 : Int32) (((4 : Int32) * p1) - (1 : Int32)))) (hsp : own_slots p1 = r) :
    MetFree l (⟨"io/tidecache/OpenAddressing", "slotsFor", "(I)I"⟩ : MethodName) (head1 (Jvm.Cond.code (⟨"io/tidecache/OpenAddressing", "slotsFor", "(I)I"⟩ : MethodName) prog_42_method_2_code 1 (some .int) :: ws) ({ frames := 2, cells := 0, slots := 0, locals := 27 } : Room)) (fun a U => a = #[(.int p1)] ∧ Z.Warmed39 U.vm ∧ U.heap = h0) (fun _ _ _ _ _ => True) (fun _ U o U' => ∃ v L, o = .returned v ∧ Q_1 Z p1 r h0 n0 v U'.heap L ∧ FrameEnd U o U' L ({ frames := 2, cells := 0, slots := 0, locals := 27 } : Room).cells ({ frames := 2, cells := 0, slots := 0, locals := 27 } : Room).slots) := by
  refine MetFree.of_bodySF (plainFor_of_name pn_io_tidecache_OpenAddressing) hisR ?_
  intro p e s m args below meth c s₁ Bd hml0 hP hK
  obtain ⟨rfl, hZ, hh⟩ := hP
  have hx := Bd.exec
  have hby := Bd.bytes
  have hml : c.maxLocals = 1 := hml0
  have hown : s.vm.findClass "io/tidecache/OpenAddressing" = some m.cls := findClass_of_methodNamed Bd.named
  have hnm := (name_of_methodNamed Bd.named Bd.method).1
  have X0 : Stand p l e ({ frames := 2, cells := 0, slots := 0, locals := 27 } : Room) s m #[(.int p1)] below meth c s₁ [] 0 0 := Stand.of_body Bd
  have e0 : s₁.heap = h0 := by rw [← hh, Bd.state]; rfl
  have N0 := Fr.nil n0
  have pw0 : ∀ t, Steps p.tables e below (s₁.setTop (mkF m 0 #[.val (.int p1)] [])) t → Steps p.tables e below (s₁.setTop (entryFrame m #[(.int p1)] 1)) t := fun t k => castTop (ef_1 m p1) k
  have K0 : Keep h0 h0 [] := Keep.refl h0 []
  obtain ⟨_, _, ⟨T34, L34, k34, n34⟩, -, X34, ⟨Lc34, hQ34, l34, y34, z34⟩, st34⟩ := Jvm.LawKit.callS X0 hx (y := (⟨"java/lang/Math", "max", "(II)I"⟩ : MethodName)) hown (mvT hZ (hw _ (List.mem_of_getElem? (i := 6) rfl))) (mvT hZ (hw _ (List.mem_of_getElem? (i := 7) rfl))) (mvT hZ (hw _ (List.mem_of_getElem? (i := 8) rfl))) (mvT hZ (hw _ (List.mem_of_getElem? (i := 9) rfl))) (by decide) (backOf (W := 0) (rm_2 l Z a0 hw [] (1 : Int32) (((4 : Int32) * p1) - (1 : Int32)) (own_max (1 : Int32) (((4 : Int32) * p1) - (1 : Int32))) h0 n0 Z0 rfl) hZ (hw _ (List.mem_of_getElem? (i := 9) rfl)) (hw _ (List.mem_of_getElem? (i := 8) rfl)) (by decide) (by decide)) (g := (mkF m 6 #[.val (.int p1)] [(.int (((4 : Int32) * p1) - (1 : Int32))), (.int (1 : Int32))])) rfl (by rw [hml]; rfl) (argsL := [(.int (1 : Int32)), (.int (((4 : Int32) * p1) - (1 : Int32)))]) (rest := []) (lenOf pd__II_I rfl) rfl (by show 2 * 0 + _ ≤ _; exact Nat.le_of_eq rfl) (hb hby d1_6) (fun _ _ => ⟨rfl, e0, (by decide : 0 + 0 ≤ _), (by decide : 0 + 0 ≤ _)⟩)
  dsimp only [Pt.U, Pt.locs, Pt.cells, Pt.slots] at X34 l34 y34 z34 st34 hQ34
  subst l34 y34 z34
  obtain ⟨rfl, N34q, e34q⟩ := hQ34
  have N34 := Fr.app N0 N34q
  obtain ⟨_, _, ⟨T35, L35, k35, n35⟩, -, X35, ⟨Lc35, hQ35, l35, y35, z35⟩, st35⟩ := Jvm.LawKit.callS X34 hx (y := (⟨"java/lang/Integer", "highestOneBit", "(I)I"⟩ : MethodName)) hown (mvT hZ (hw _ (List.mem_of_getElem? (i := 10) rfl))) (mvT hZ (hw _ (List.mem_of_getElem? (i := 11) rfl))) (mvT hZ (hw _ (List.mem_of_getElem? (i := 12) rfl))) (mvT hZ (hw _ (List.mem_of_getElem? (i := 13) rfl))) (by decide) (backOf (W := 0) (rm_3 l Z a0 hw [] (own_max (1 : Int32) (((4 : Int32) * p1) - (1 : Int32))) (own_hob (own_max (1 : Int32) (((4 : Int32) * p1) - (1 : Int32)))) h0 n0 Z0 hpos rfl) hZ (hw _ (List.mem_of_getElem? (i := 13) rfl)) (hw _ (List.mem_of_getElem? (i := 12) rfl)) (by decide) (by decide)) (g := (mkF m 9 #[.val (.int p1)] [(.int (own_max (1 : Int32) (((4 : Int32) * p1) - (1 : Int32))))])) rfl (by rw [hml]; rfl) (argsL := [(.int (own_max (1 : Int32) (((4 : Int32) * p1) - (1 : Int32))))]) (rest := []) (lenOf pd__I_I rfl) rfl (by show 2 * 0 + _ ≤ _; exact Nat.le_of_eq rfl) (hb hby d1_9) (fun _ _ => ⟨rfl, e34q, (by decide : 0 + 0 ≤ _), (by decide : 0 + 0 ≤ _)⟩)
  dsimp only [Pt.U, Pt.locs, Pt.cells, Pt.slots] at X35 l35 y35 z35 st35 hQ35
  subst l35 y35 z35
  obtain ⟨rfl, N35q, e35q⟩ := hQ35
  have N35 := Fr.app N34 N35q
  obtain ⟨fs, hr, hrun, hended, hW, hsame⟩ := X35.leave (v := some (.int ((own_hob (own_max (1 : Int32) (((4 : Int32) * p1) - (1 : Int32)))) <<< ((1 : Int32) &&& 31)))) (fun h => by rw [Bd.returns] at h; cases h)
  refine ⟨_, _, pw0 _ ?_, hrun, hended, _, _, rfl, ?_, ⟨_, rfl⟩, hW, hsame.mono (by decide) (by decide)⟩
  · skip
    refine XS.iconst X0.here hx rfl (hb hby d1_0) ?_
    show Steps p.tables e below (s₁.setTop (mkF m 1 #[.val (.int p1)] [(.int (1 : Int32))])) _
    refine XS.iconst X0.here hx rfl (hb hby d1_1) ?_
    show Steps p.tables e below (s₁.setTop (mkF m 2 #[.val (.int p1)] [(.int (4 : Int32)), (.int (1 : Int32))])) _
    refine XS.iloadN X0.here hx rfl (hb hby d1_2) rfl ?_
    show Steps p.tables e below (s₁.setTop (mkF m 3 #[.val (.int p1)] [(.int p1), (.int (4 : Int32)), (.int (1 : Int32))])) _
    refine XS.imul X0.here hx rfl (hb hby d1_3) rfl ?_
    show Steps p.tables e below (s₁.setTop (mkF m 4 #[.val (.int p1)] [(.int ((4 : Int32) * p1)), (.int (1 : Int32))])) _
    refine XS.iconst X0.here hx rfl (hb hby d1_4) ?_
    show Steps p.tables e below (s₁.setTop (mkF m 5 #[.val (.int p1)] [(.int (1 : Int32)), (.int ((4 : Int32) * p1)), (.int (1 : Int32))])) _
    refine XS.isub X0.here hx rfl (hb hby d1_5) rfl ?_
    show Steps p.tables e below (s₁.setTop (mkF m 6 #[.val (.int p1)] [(.int (((4 : Int32) * p1) - (1 : Int32))), (.int (1 : Int32))])) _
    refine st34 _ ?_
    show Steps p.tables e below (T34.setTop (mkF m 9 #[.val (.int p1)] [(.int (own_max (1 : Int32) (((4 : Int32) * p1) - (1 : Int32))))])) _
    refine st35 _ ?_
    show Steps p.tables e below (T35.setTop (mkF m 12 #[.val (.int p1)] [(.int (own_hob (own_max (1 : Int32) (((4 : Int32) * p1) - (1 : Int32)))))])) _
    refine XS.iconst X35.here hx rfl (hb hby d1_12) ?_
    show Steps p.tables e below (T35.setTop (mkF m 13 #[.val (.int p1)] [(.int (1 : Int32)), (.int (own_hob (own_max (1 : Int32) (((4 : Int32) * p1) - (1 : Int32)))))])) _
    refine XS.ishl X35.here hx rfl (hb hby d1_13) rfl ?_
    show Steps p.tables e below (T35.setTop (mkF m 14 #[.val (.int p1)] [(.int ((own_hob (own_max (1 : Int32) (((4 : Int32) * p1) - (1 : Int32)))) <<< ((1 : Int32) &&& 31)))])) _
    exact retI X35 hx Bd.returns (hb hby d1_14) hr
  · show Q_1 Z p1 r h0 n0 _ T35.heap _
    rw [e35q]
    exact ⟨by rw [← hsp]; rfl, N35, rfl⟩
theorem ef_0 (m : MethodId) (x0 : Int32) : entryFrame m #[(.int x0)] maxLocals = mkF m 0 #[.val (.int x0), .unset, .unset, .unset, .unset, .unset, .unset] [] := by first | (simp [entryFrame, mkF, argsToLocals, Value.category, maxLocals]; done) | rfl
theorem pn_io_tidecache_OpenAddressingSlotsForPinLaw : plainName "io/tidecache/OpenAddressingSlotsForPinLaw" = true := by first | (simp [plainName, overriddenIn]; done) | decide +kernel
def Q_0 (Z : State) (x0 : Int32) (s_ : Int32) (h0 : Heap) (n0 : Nat) (v : Option Value) (h : Heap) (L : List Loc) : Prop := v = some (.int 1) ∧ Fr n0 L
set_option maxRecDepth 65536 in
set_option maxHeartbeats 40000000 in
theorem rm_0 (l : Launch) (Z : State) (a0 : Array Value) (hw : ∀ d ∈ tables_1, d.before a0 Z = true) (ws : List Jvm.Cond) (x0 : Int32) (s_ : Int32) (h0 : Heap) (n0 : Nat) (Z0 : n0 ≤ h0.size) (hpos : (0 : Int32) < own_max (1 : Int32) (((4 : Int32) * ((x0 &&& (536870911 : Int32)) % (268435457 : Int32))) - (1 : Int32))) (hgd : own_good ((x0 &&& (536870911 : Int32)) % (268435457 : Int32)) s_) :
    MetFree l x (head1 (Jvm.Cond.code x code maxLocals ret :: ws) room_1) (fun a U => a = #[(.int x0)] ∧ Z.Warmed39 U.vm ∧ U.heap = h0) (fun _ _ _ _ _ => True) (fun _ U o U' => ∃ v L, o = .returned v ∧ Q_0 Z x0 s_ h0 n0 v U'.heap L ∧ FrameEnd U o U' L room_1.cells room_1.slots) := by
  refine MetFree.of_bodySF (plainFor_of_name pn_io_tidecache_OpenAddressingSlotsForPinLaw) hisR ?_
  intro p e s m args below meth c s₁ Bd hml0 hP hK
  obtain ⟨rfl, hZ, hh⟩ := hP
  have hx := Bd.exec
  have hby := Bd.bytes
  have hml : c.maxLocals = 7 := hml0
  have hown : s.vm.findClass "io/tidecache/OpenAddressingSlotsForPinLaw" = some m.cls := findClass_of_methodNamed Bd.named
  have hnm := (name_of_methodNamed Bd.named Bd.method).1
  have X0 : Stand p l e room_1 s m #[(.int x0)] below meth c s₁ [] 0 0 := Stand.of_body Bd
  have e0 : s₁.heap = h0 := by rw [← hh, Bd.state]; rfl
  have N0 := Fr.nil n0
  have pw0 : ∀ t, Steps p.tables e below (s₁.setTop (mkF m 0 #[.val (.int x0), .unset, .unset, .unset, .unset, .unset, .unset] [])) t → Steps p.tables e below (s₁.setTop (entryFrame m #[(.int x0)] maxLocals)) t := fun t k => castTop (ef_0 m x0) k
  have K0 : Keep h0 h0 [] := Keep.refl h0 []
  obtain ⟨_, _, ⟨T36, L36, k36, n36⟩, -, X36, ⟨Lc36, hQ36, l36, y36, z36⟩, st36⟩ := Jvm.LawKit.callS X0 hx (y := (⟨"io/tidecache/OpenAddressing", "slotsFor", "(I)I"⟩ : MethodName)) hown (mvT hZ (hw _ (List.mem_of_getElem? (i := 2) rfl))) (mvT hZ (hw _ (List.mem_of_getElem? (i := 3) rfl))) (mvT hZ (hw _ (List.mem_of_getElem? (i := 4) rfl))) (mvT hZ (hw _ (List.mem_of_getElem? (i := 5) rfl))) (by decide) (backOf (W := 0) (rm_1 l Z a0 hw [] ((x0 &&& (536870911 : Int32)) % (268435457 : Int32)) s_ h0 n0 Z0 hpos hgd.1) hZ (hw _ (List.mem_of_getElem? (i := 5) rfl)) (hw _ (List.mem_of_getElem? (i := 4) rfl)) (by decide) (by decide)) (g := (mkF m 9 #[.val (.int x0), .val (.int ((x0 &&& (536870911 : Int32)) % (268435457 : Int32))), .unset, .unset, .unset, .unset, .unset] [(.int ((x0 &&& (536870911 : Int32)) % (268435457 : Int32)))])) rfl (by rw [hml]; rfl) (argsL := [(.int ((x0 &&& (536870911 : Int32)) % (268435457 : Int32)))]) (rest := []) (lenOf pd__I_I rfl) rfl (by show 2 * 0 + _ ≤ _; exact Nat.le_of_eq rfl) (hb hby at_9) (fun _ _ => ⟨rfl, e0, (by decide : 0 + 0 ≤ _), (by decide : 0 + 0 ≤ _)⟩)
  dsimp only [Pt.U, Pt.locs, Pt.cells, Pt.slots] at X36 l36 y36 z36 st36 hQ36
  subst l36 y36 z36
  obtain ⟨rfl, N36q, e36q⟩ := hQ36
  have N36 := Fr.app N0 N36q
  have pw37 : ∀ t, Steps p.tables e below (T36.setTop (mkF m 64 #[.val (.int x0), .val (.int ((x0 &&& (536870911 : Int32)) % (268435457 : Int32))), .val (.int s_), .val (.long ((4 : Int64) * (((x0 &&& (536870911 : Int32)) % (268435457 : Int32)).toInt64))), .second, .val (.int (1 : Int32)), .unset] [(.int (2 : Int32)), (.int s_)])) t → Steps p.tables e below (s₁.setTop (entryFrame m #[(.int x0)] maxLocals)) t := by
    intro t k
    refine pw0 t ?_
    refine XS.iloadN X0.here hx rfl (hb hby at_0) rfl ?_
    show Steps p.tables e below (s₁.setTop (mkF m 1 #[.val (.int x0), .unset, .unset, .unset, .unset, .unset, .unset] [(.int x0)])) _
    refine X0.ldcInt hx hown (mvT hZ (hw _ (List.mem_of_getElem? (i := 0) rfl))) (g := (mkF m 1 #[.val (.int x0), .unset, .unset, .unset, .unset, .unset, .unset] [(.int x0)])) rfl (hb hby at_1) _ ?_
    show Steps p.tables e below (s₁.setTop (mkF m 3 #[.val (.int x0), .unset, .unset, .unset, .unset, .unset, .unset] [(.int (536870911 : Int32)), (.int x0)])) _
    refine XS.iand X0.here hx rfl (hb hby at_3) rfl ?_
    show Steps p.tables e below (s₁.setTop (mkF m 4 #[.val (.int x0), .unset, .unset, .unset, .unset, .unset, .unset] [(.int (x0 &&& (536870911 : Int32)))])) _
    refine X0.ldcInt hx hown (mvT hZ (hw _ (List.mem_of_getElem? (i := 1) rfl))) (g := (mkF m 4 #[.val (.int x0), .unset, .unset, .unset, .unset, .unset, .unset] [(.int (x0 &&& (536870911 : Int32)))])) rfl (hb hby at_4) _ ?_
    show Steps p.tables e below (s₁.setTop (mkF m 6 #[.val (.int x0), .unset, .unset, .unset, .unset, .unset, .unset] [(.int (268435457 : Int32)), (.int (x0 &&& (536870911 : Int32)))])) _
    refine iremM (g := (mkF m 6 #[.val (.int x0), .unset, .unset, .unset, .unset, .unset, .unset] [(.int (268435457 : Int32)), (.int (x0 &&& (536870911 : Int32)))])) X0 hx rfl (hb hby at_6) rfl (by decide) ?_
    show Steps p.tables e below (s₁.setTop (mkF m 7 #[.val (.int x0), .unset, .unset, .unset, .unset, .unset, .unset] [(.int ((x0 &&& (536870911 : Int32)) % (268435457 : Int32)))])) _
    refine XS.istoreN X0.here hx rfl (hb hby at_7) rfl (l' := #[.val (.int x0), .val (.int ((x0 &&& (536870911 : Int32)) % (268435457 : Int32))), .unset, .unset, .unset, .unset, .unset]) rfl ?_
    show Steps p.tables e below (s₁.setTop (mkF m 8 #[.val (.int x0), .val (.int ((x0 &&& (536870911 : Int32)) % (268435457 : Int32))), .unset, .unset, .unset, .unset, .unset] [])) _
    refine XS.iloadN X0.here hx rfl (hb hby at_8) rfl ?_
    show Steps p.tables e below (s₁.setTop (mkF m 9 #[.val (.int x0), .val (.int ((x0 &&& (536870911 : Int32)) % (268435457 : Int32))), .unset, .unset, .unset, .unset, .unset] [(.int ((x0 &&& (536870911 : Int32)) % (268435457 : Int32)))])) _
    refine st36 _ ?_
    show Steps p.tables e below (T36.setTop (mkF m 12 #[.val (.int x0), .val (.int ((x0 &&& (536870911 : Int32)) % (268435457 : Int32))), .unset, .unset, .unset, .unset, .unset] [(.int s_)])) _
    refine XS.istoreN X36.here hx rfl (hb hby at_12) rfl (l' := #[.val (.int x0), .val (.int ((x0 &&& (536870911 : Int32)) % (268435457 : Int32))), .val (.int s_), .unset, .unset, .unset, .unset]) rfl ?_
    show Steps p.tables e below (T36.setTop (mkF m 13 #[.val (.int x0), .val (.int ((x0 &&& (536870911 : Int32)) % (268435457 : Int32))), .val (.int s_), .unset, .unset, .unset, .unset] [])) _
    refine X36.ldc2Long hx hown (mvT hZ (hw _ (List.mem_of_getElem? (i := 19) rfl))) (g := (mkF m 13 #[.val (.int x0), .val (.int ((x0 &&& (536870911 : Int32)) % (268435457 : Int32))), .val (.int s_), .unset, .unset, .unset, .unset] [])) rfl (hb hby at_13) _ ?_
    show Steps p.tables e below (T36.setTop (mkF m 16 #[.val (.int x0), .val (.int ((x0 &&& (536870911 : Int32)) % (268435457 : Int32))), .val (.int s_), .unset, .unset, .unset, .unset] [(.long (4 : Int64))])) _
    refine XS.iloadN X36.here hx rfl (hb hby at_16) rfl ?_
    show Steps p.tables e below (T36.setTop (mkF m 17 #[.val (.int x0), .val (.int ((x0 &&& (536870911 : Int32)) % (268435457 : Int32))), .val (.int s_), .unset, .unset, .unset, .unset] [(.int ((x0 &&& (536870911 : Int32)) % (268435457 : Int32))), (.long (4 : Int64))])) _
    refine XS.i2l X36.here hx rfl (hb hby at_17) rfl ?_
    show Steps p.tables e below (T36.setTop (mkF m 18 #[.val (.int x0), .val (.int ((x0 &&& (536870911 : Int32)) % (268435457 : Int32))), .val (.int s_), .unset, .unset, .unset, .unset] [(.long (((x0 &&& (536870911 : Int32)) % (268435457 : Int32)).toInt64)), (.long (4 : Int64))])) _
    refine XS.lmul X36.here hx rfl (hb hby at_18) rfl ?_
    show Steps p.tables e below (T36.setTop (mkF m 19 #[.val (.int x0), .val (.int ((x0 &&& (536870911 : Int32)) % (268435457 : Int32))), .val (.int s_), .unset, .unset, .unset, .unset] [(.long ((4 : Int64) * (((x0 &&& (536870911 : Int32)) % (268435457 : Int32)).toInt64)))])) _
    refine XS.lstoreN X36.here hx rfl (hb hby at_19) rfl (l' := #[.val (.int x0), .val (.int ((x0 &&& (536870911 : Int32)) % (268435457 : Int32))), .val (.int s_), .val (.long ((4 : Int64) * (((x0 &&& (536870911 : Int32)) % (268435457 : Int32)).toInt64))), .second, .unset, .unset]) rfl ?_
    show Steps p.tables e below (T36.setTop (mkF m 20 #[.val (.int x0), .val (.int ((x0 &&& (536870911 : Int32)) % (268435457 : Int32))), .val (.int s_), .val (.long ((4 : Int64) * (((x0 &&& (536870911 : Int32)) % (268435457 : Int32)).toInt64))), .second, .unset, .unset] [])) _
    refine XS.iloadN X36.here hx rfl (hb hby at_20) rfl ?_
    show Steps p.tables e below (T36.setTop (mkF m 21 #[.val (.int x0), .val (.int ((x0 &&& (536870911 : Int32)) % (268435457 : Int32))), .val (.int s_), .val (.long ((4 : Int64) * (((x0 &&& (536870911 : Int32)) % (268435457 : Int32)).toInt64))), .second, .unset, .unset] [(.int s_)])) _
    refine XS.ifNo X36.here hx rfl (hb hby at_21) rfl ((if0 _ _).trans (tlt (hgd.2.1 : (0 : Int32) < s_)).2.2.2) ?_
    show Steps p.tables e below (T36.setTop (mkF m 24 #[.val (.int x0), .val (.int ((x0 &&& (536870911 : Int32)) % (268435457 : Int32))), .val (.int s_), .val (.long ((4 : Int64) * (((x0 &&& (536870911 : Int32)) % (268435457 : Int32)).toInt64))), .second, .unset, .unset] [])) _
    refine XS.iloadN X36.here hx rfl (hb hby at_24) rfl ?_
    show Steps p.tables e below (T36.setTop (mkF m 25 #[.val (.int x0), .val (.int ((x0 &&& (536870911 : Int32)) % (268435457 : Int32))), .val (.int s_), .val (.long ((4 : Int64) * (((x0 &&& (536870911 : Int32)) % (268435457 : Int32)).toInt64))), .second, .unset, .unset] [(.int s_)])) _
    refine XS.iloadN X36.here hx rfl (hb hby at_25) rfl ?_
    show Steps p.tables e below (T36.setTop (mkF m 26 #[.val (.int x0), .val (.int ((x0 &&& (536870911 : Int32)) % (268435457 : Int32))), .val (.int s_), .val (.long ((4 : Int64) * (((x0 &&& (536870911 : Int32)) % (268435457 : Int32)).toInt64))), .second, .unset, .unset] [(.int s_), (.int s_)])) _
    refine XS.iconst X36.here hx rfl (hb hby at_26) ?_
    show Steps p.tables e below (T36.setTop (mkF m 27 #[.val (.int x0), .val (.int ((x0 &&& (536870911 : Int32)) % (268435457 : Int32))), .val (.int s_), .val (.long ((4 : Int64) * (((x0 &&& (536870911 : Int32)) % (268435457 : Int32)).toInt64))), .second, .unset, .unset] [(.int (1 : Int32)), (.int s_), (.int s_)])) _
    refine XS.isub X36.here hx rfl (hb hby at_27) rfl ?_
    show Steps p.tables e below (T36.setTop (mkF m 28 #[.val (.int x0), .val (.int ((x0 &&& (536870911 : Int32)) % (268435457 : Int32))), .val (.int s_), .val (.long ((4 : Int64) * (((x0 &&& (536870911 : Int32)) % (268435457 : Int32)).toInt64))), .second, .unset, .unset] [(.int (s_ - (1 : Int32))), (.int s_)])) _
    refine XS.iand X36.here hx rfl (hb hby at_28) rfl ?_
    show Steps p.tables e below (T36.setTop (mkF m 29 #[.val (.int x0), .val (.int ((x0 &&& (536870911 : Int32)) % (268435457 : Int32))), .val (.int s_), .val (.long ((4 : Int64) * (((x0 &&& (536870911 : Int32)) % (268435457 : Int32)).toInt64))), .second, .unset, .unset] [(.int (s_ &&& (s_ - (1 : Int32))))])) _
    refine XS.ifNo X36.here hx rfl (hb hby at_29) rfl ((if0 _ _).trans (teq (hgd.2.2.1 : (s_ &&& (s_ - (1 : Int32))) = (0 : Int32))).2) ?_
    show Steps p.tables e below (T36.setTop (mkF m 32 #[.val (.int x0), .val (.int ((x0 &&& (536870911 : Int32)) % (268435457 : Int32))), .val (.int s_), .val (.long ((4 : Int64) * (((x0 &&& (536870911 : Int32)) % (268435457 : Int32)).toInt64))), .second, .unset, .unset] [])) _
    refine XS.iconst X36.here hx rfl (hb hby at_32) ?_
    show Steps p.tables e below (T36.setTop (mkF m 33 #[.val (.int x0), .val (.int ((x0 &&& (536870911 : Int32)) % (268435457 : Int32))), .val (.int s_), .val (.long ((4 : Int64) * (((x0 &&& (536870911 : Int32)) % (268435457 : Int32)).toInt64))), .second, .unset, .unset] [(.int (1 : Int32))])) _
    refine XS.goto X36.here hx rfl (pc0 := 33) (pc' := 37) rfl (hb hby at_33) (by decide) (by decide) ?_
    show Steps p.tables e below (T36.setTop (mkF m 37 #[.val (.int x0), .val (.int ((x0 &&& (536870911 : Int32)) % (268435457 : Int32))), .val (.int s_), .val (.long ((4 : Int64) * (((x0 &&& (536870911 : Int32)) % (268435457 : Int32)).toInt64))), .second, .unset, .unset] [(.int (1 : Int32))])) _
    refine XS.istore X36.here hx rfl (hb hby at_37) rfl (l' := #[.val (.int x0), .val (.int ((x0 &&& (536870911 : Int32)) % (268435457 : Int32))), .val (.int s_), .val (.long ((4 : Int64) * (((x0 &&& (536870911 : Int32)) % (268435457 : Int32)).toInt64))), .second, .val (.int (1 : Int32)), .unset]) rfl ?_
    show Steps p.tables e below (T36.setTop (mkF m 39 #[.val (.int x0), .val (.int ((x0 &&& (536870911 : Int32)) % (268435457 : Int32))), .val (.int s_), .val (.long ((4 : Int64) * (((x0 &&& (536870911 : Int32)) % (268435457 : Int32)).toInt64))), .second, .val (.int (1 : Int32)), .unset] [])) _
    refine XS.iload X36.here hx rfl (hb hby at_39) rfl ?_
    show Steps p.tables e below (T36.setTop (mkF m 41 #[.val (.int x0), .val (.int ((x0 &&& (536870911 : Int32)) % (268435457 : Int32))), .val (.int s_), .val (.long ((4 : Int64) * (((x0 &&& (536870911 : Int32)) % (268435457 : Int32)).toInt64))), .second, .val (.int (1 : Int32)), .unset] [(.int (1 : Int32))])) _
    refine XS.ifYes X36.here hx rfl (pc0 := 41) (pc' := 46) rfl (hb hby at_41) rfl ((if0 _ _).trans (feq (by decide : ¬ ((1 : Int32) = (0 : Int32)))).2) (by decide) (by decide) ?_
    show Steps p.tables e below (T36.setTop (mkF m 46 #[.val (.int x0), .val (.int ((x0 &&& (536870911 : Int32)) % (268435457 : Int32))), .val (.int s_), .val (.long ((4 : Int64) * (((x0 &&& (536870911 : Int32)) % (268435457 : Int32)).toInt64))), .second, .val (.int (1 : Int32)), .unset] [])) _
    refine XS.iloadN X36.here hx rfl (hb hby at_46) rfl ?_
    show Steps p.tables e below (T36.setTop (mkF m 47 #[.val (.int x0), .val (.int ((x0 &&& (536870911 : Int32)) % (268435457 : Int32))), .val (.int s_), .val (.long ((4 : Int64) * (((x0 &&& (536870911 : Int32)) % (268435457 : Int32)).toInt64))), .second, .val (.int (1 : Int32)), .unset] [(.int s_)])) _
    refine XS.iconst X36.here hx rfl (hb hby at_47) ?_
    show Steps p.tables e below (T36.setTop (mkF m 48 #[.val (.int x0), .val (.int ((x0 &&& (536870911 : Int32)) % (268435457 : Int32))), .val (.int s_), .val (.long ((4 : Int64) * (((x0 &&& (536870911 : Int32)) % (268435457 : Int32)).toInt64))), .second, .val (.int (1 : Int32)), .unset] [(.int (2 : Int32)), (.int s_)])) _
    refine XS.icmpYes X36.here hx rfl (pc0 := 48) (pc' := 53) rfl (hb hby at_48) rfl (flt (hgd.2.2.2.1 : ¬ (s_ < (2 : Int32)))).2.1 (by decide) (by decide) ?_
    show Steps p.tables e below (T36.setTop (mkF m 53 #[.val (.int x0), .val (.int ((x0 &&& (536870911 : Int32)) % (268435457 : Int32))), .val (.int s_), .val (.long ((4 : Int64) * (((x0 &&& (536870911 : Int32)) % (268435457 : Int32)).toInt64))), .second, .val (.int (1 : Int32)), .unset] [])) _
    refine XS.iloadN X36.here hx rfl (hb hby at_53) rfl ?_
    show Steps p.tables e below (T36.setTop (mkF m 54 #[.val (.int x0), .val (.int ((x0 &&& (536870911 : Int32)) % (268435457 : Int32))), .val (.int s_), .val (.long ((4 : Int64) * (((x0 &&& (536870911 : Int32)) % (268435457 : Int32)).toInt64))), .second, .val (.int (1 : Int32)), .unset] [(.int s_)])) _
    refine XS.i2l X36.here hx rfl (hb hby at_54) rfl ?_
    show Steps p.tables e below (T36.setTop (mkF m 55 #[.val (.int x0), .val (.int ((x0 &&& (536870911 : Int32)) % (268435457 : Int32))), .val (.int s_), .val (.long ((4 : Int64) * (((x0 &&& (536870911 : Int32)) % (268435457 : Int32)).toInt64))), .second, .val (.int (1 : Int32)), .unset] [(.long (s_.toInt64))])) _
    refine XS.lloadN X36.here hx rfl (hb hby at_55) rfl ?_
    show Steps p.tables e below (T36.setTop (mkF m 56 #[.val (.int x0), .val (.int ((x0 &&& (536870911 : Int32)) % (268435457 : Int32))), .val (.int s_), .val (.long ((4 : Int64) * (((x0 &&& (536870911 : Int32)) % (268435457 : Int32)).toInt64))), .second, .val (.int (1 : Int32)), .unset] [(.long ((4 : Int64) * (((x0 &&& (536870911 : Int32)) % (268435457 : Int32)).toInt64))), (.long (s_.toInt64))])) _
    refine XS.lcmp X36.here hx rfl (hb hby at_56) rfl ?_
    show Steps p.tables e below (T36.setTop (mkF m 57 #[.val (.int x0), .val (.int ((x0 &&& (536870911 : Int32)) % (268435457 : Int32))), .val (.int s_), .val (.long ((4 : Int64) * (((x0 &&& (536870911 : Int32)) % (268435457 : Int32)).toInt64))), .second, .val (.int (1 : Int32)), .unset] [(.int (lcmpW (s_.toInt64) ((4 : Int64) * (((x0 &&& (536870911 : Int32)) % (268435457 : Int32)).toInt64))))])) _
    refine XS.ifYes X36.here hx rfl (pc0 := 57) (pc' := 62) rfl (hb hby at_57) rfl ((if0 _ _).trans (flt (mt (lw_lt (s_.toInt64) ((4 : Int64) * (((x0 &&& (536870911 : Int32)) % (268435457 : Int32)).toInt64))).1 (hgd.2.2.2.2.1 : ¬ ((s_.toInt64) < ((4 : Int64) * (((x0 &&& (536870911 : Int32)) % (268435457 : Int32)).toInt64)))))).2.1) (by decide) (by decide) ?_
    show Steps p.tables e below (T36.setTop (mkF m 62 #[.val (.int x0), .val (.int ((x0 &&& (536870911 : Int32)) % (268435457 : Int32))), .val (.int s_), .val (.long ((4 : Int64) * (((x0 &&& (536870911 : Int32)) % (268435457 : Int32)).toInt64))), .second, .val (.int (1 : Int32)), .unset] [])) _
    refine XS.iloadN X36.here hx rfl (hb hby at_62) rfl ?_
    show Steps p.tables e below (T36.setTop (mkF m 63 #[.val (.int x0), .val (.int ((x0 &&& (536870911 : Int32)) % (268435457 : Int32))), .val (.int s_), .val (.long ((4 : Int64) * (((x0 &&& (536870911 : Int32)) % (268435457 : Int32)).toInt64))), .second, .val (.int (1 : Int32)), .unset] [(.int s_)])) _
    refine XS.iconst X36.here hx rfl (hb hby at_63) ?_
    show Steps p.tables e below (T36.setTop (mkF m 64 #[.val (.int x0), .val (.int ((x0 &&& (536870911 : Int32)) % (268435457 : Int32))), .val (.int s_), .val (.long ((4 : Int64) * (((x0 &&& (536870911 : Int32)) % (268435457 : Int32)).toInt64))), .second, .val (.int (1 : Int32)), .unset] [(.int (2 : Int32)), (.int s_)])) _
    exact k
  by_cases hc38 : s_ = (2 : Int32)
  · skip
    obtain ⟨fs, hr, hrun, hended, hW, hsame⟩ := X36.leave (v := some (.int (1 : Int32))) (fun h => by rw [Bd.returns] at h; cases h)
    refine ⟨_, _, pw37 _ ?_, hrun, hended, _, _, rfl, ?_, ⟨_, rfl⟩, hW, hsame.mono (by decide) (by decide)⟩
    · skip
      refine XS.icmpYes X36.here hx rfl (pc0 := 64) (pc' := 76) rfl (hb hby at_64) rfl (teq hc38).1 (by decide) (by decide) ?_
      show Steps p.tables e below (T36.setTop (mkF m 76 #[.val (.int x0), .val (.int ((x0 &&& (536870911 : Int32)) % (268435457 : Int32))), .val (.int s_), .val (.long ((4 : Int64) * (((x0 &&& (536870911 : Int32)) % (268435457 : Int32)).toInt64))), .second, .val (.int (1 : Int32)), .unset] [])) _
      refine XS.iconst X36.here hx rfl (hb hby at_76) ?_
      show Steps p.tables e below (T36.setTop (mkF m 77 #[.val (.int x0), .val (.int ((x0 &&& (536870911 : Int32)) % (268435457 : Int32))), .val (.int s_), .val (.long ((4 : Int64) * (((x0 &&& (536870911 : Int32)) % (268435457 : Int32)).toInt64))), .second, .val (.int (1 : Int32)), .unset] [(.int (1 : Int32))])) _
      refine XS.goto X36.here hx rfl (pc0 := 77) (pc' := 81) rfl (hb hby at_77) (by decide) (by decide) ?_
      show Steps p.tables e below (T36.setTop (mkF m 81 #[.val (.int x0), .val (.int ((x0 &&& (536870911 : Int32)) % (268435457 : Int32))), .val (.int s_), .val (.long ((4 : Int64) * (((x0 &&& (536870911 : Int32)) % (268435457 : Int32)).toInt64))), .second, .val (.int (1 : Int32)), .unset] [(.int (1 : Int32))])) _
      refine XS.istore X36.here hx rfl (hb hby at_81) rfl (l' := #[.val (.int x0), .val (.int ((x0 &&& (536870911 : Int32)) % (268435457 : Int32))), .val (.int s_), .val (.long ((4 : Int64) * (((x0 &&& (536870911 : Int32)) % (268435457 : Int32)).toInt64))), .second, .val (.int (1 : Int32)), .val (.int (1 : Int32))]) rfl ?_
      show Steps p.tables e below (T36.setTop (mkF m 83 #[.val (.int x0), .val (.int ((x0 &&& (536870911 : Int32)) % (268435457 : Int32))), .val (.int s_), .val (.long ((4 : Int64) * (((x0 &&& (536870911 : Int32)) % (268435457 : Int32)).toInt64))), .second, .val (.int (1 : Int32)), .val (.int (1 : Int32))] [])) _
      refine XS.iload X36.here hx rfl (hb hby at_83) rfl ?_
      show Steps p.tables e below (T36.setTop (mkF m 85 #[.val (.int x0), .val (.int ((x0 &&& (536870911 : Int32)) % (268435457 : Int32))), .val (.int s_), .val (.long ((4 : Int64) * (((x0 &&& (536870911 : Int32)) % (268435457 : Int32)).toInt64))), .second, .val (.int (1 : Int32)), .val (.int (1 : Int32))] [(.int (1 : Int32))])) _
      exact retN X36 hx (t := .boolean) Bd.returns (by simp) (hb hby at_85) hr
    · show Q_0 Z x0 s_ h0 n0 _ T36.heap _
      rw [e36q]
      exact ⟨rfl, N36⟩
  · skip
    obtain ⟨fs, hr, hrun, hended, hW, hsame⟩ := X36.leave (v := some (.int (1 : Int32))) (fun h => by rw [Bd.returns] at h; cases h)
    refine ⟨_, _, pw37 _ ?_, hrun, hended, _, _, rfl, ?_, ⟨_, rfl⟩, hW, hsame.mono (by decide) (by decide)⟩
    · skip
      refine XS.icmpNo X36.here hx rfl (hb hby at_64) rfl (feq hc38).1 ?_
      show Steps p.tables e below (T36.setTop (mkF m 67 #[.val (.int x0), .val (.int ((x0 &&& (536870911 : Int32)) % (268435457 : Int32))), .val (.int s_), .val (.long ((4 : Int64) * (((x0 &&& (536870911 : Int32)) % (268435457 : Int32)).toInt64))), .second, .val (.int (1 : Int32)), .unset] [])) _
      refine XS.iloadN X36.here hx rfl (hb hby at_67) rfl ?_
      show Steps p.tables e below (T36.setTop (mkF m 68 #[.val (.int x0), .val (.int ((x0 &&& (536870911 : Int32)) % (268435457 : Int32))), .val (.int s_), .val (.long ((4 : Int64) * (((x0 &&& (536870911 : Int32)) % (268435457 : Int32)).toInt64))), .second, .val (.int (1 : Int32)), .unset] [(.int s_)])) _
      refine XS.iconst X36.here hx rfl (hb hby at_68) ?_
      show Steps p.tables e below (T36.setTop (mkF m 69 #[.val (.int x0), .val (.int ((x0 &&& (536870911 : Int32)) % (268435457 : Int32))), .val (.int s_), .val (.long ((4 : Int64) * (((x0 &&& (536870911 : Int32)) % (268435457 : Int32)).toInt64))), .second, .val (.int (1 : Int32)), .unset] [(.int (2 : Int32)), (.int s_)])) _
      refine XS.idiv X36.here hx rfl (hb hby at_69) rfl (by decide) ?_
      show Steps p.tables e below (T36.setTop (mkF m 70 #[.val (.int x0), .val (.int ((x0 &&& (536870911 : Int32)) % (268435457 : Int32))), .val (.int s_), .val (.long ((4 : Int64) * (((x0 &&& (536870911 : Int32)) % (268435457 : Int32)).toInt64))), .second, .val (.int (1 : Int32)), .unset] [(.int (s_ / (2 : Int32)))])) _
      refine XS.i2l X36.here hx rfl (hb hby at_70) rfl ?_
      show Steps p.tables e below (T36.setTop (mkF m 71 #[.val (.int x0), .val (.int ((x0 &&& (536870911 : Int32)) % (268435457 : Int32))), .val (.int s_), .val (.long ((4 : Int64) * (((x0 &&& (536870911 : Int32)) % (268435457 : Int32)).toInt64))), .second, .val (.int (1 : Int32)), .unset] [(.long ((s_ / (2 : Int32)).toInt64))])) _
      refine XS.lloadN X36.here hx rfl (hb hby at_71) rfl ?_
      show Steps p.tables e below (T36.setTop (mkF m 72 #[.val (.int x0), .val (.int ((x0 &&& (536870911 : Int32)) % (268435457 : Int32))), .val (.int s_), .val (.long ((4 : Int64) * (((x0 &&& (536870911 : Int32)) % (268435457 : Int32)).toInt64))), .second, .val (.int (1 : Int32)), .unset] [(.long ((4 : Int64) * (((x0 &&& (536870911 : Int32)) % (268435457 : Int32)).toInt64))), (.long ((s_ / (2 : Int32)).toInt64))])) _
      refine XS.lcmp X36.here hx rfl (hb hby at_72) rfl ?_
      show Steps p.tables e below (T36.setTop (mkF m 73 #[.val (.int x0), .val (.int ((x0 &&& (536870911 : Int32)) % (268435457 : Int32))), .val (.int s_), .val (.long ((4 : Int64) * (((x0 &&& (536870911 : Int32)) % (268435457 : Int32)).toInt64))), .second, .val (.int (1 : Int32)), .unset] [(.int (lcmpW ((s_ / (2 : Int32)).toInt64) ((4 : Int64) * (((x0 &&& (536870911 : Int32)) % (268435457 : Int32)).toInt64))))])) _
      refine XS.ifNo X36.here hx rfl (hb hby at_73) rfl ((if0 _ _).trans (tlt ((lw_lt ((s_ / (2 : Int32)).toInt64) ((4 : Int64) * (((x0 &&& (536870911 : Int32)) % (268435457 : Int32)).toInt64))).2 (hgd.2.2.2.2.2.resolve_left hc38 : ((s_ / (2 : Int32)).toInt64) < ((4 : Int64) * (((x0 &&& (536870911 : Int32)) % (268435457 : Int32)).toInt64))))).2.1) ?_
      show Steps p.tables e below (T36.setTop (mkF m 76 #[.val (.int x0), .val (.int ((x0 &&& (536870911 : Int32)) % (268435457 : Int32))), .val (.int s_), .val (.long ((4 : Int64) * (((x0 &&& (536870911 : Int32)) % (268435457 : Int32)).toInt64))), .second, .val (.int (1 : Int32)), .unset] [])) _
      refine XS.iconst X36.here hx rfl (hb hby at_76) ?_
      show Steps p.tables e below (T36.setTop (mkF m 77 #[.val (.int x0), .val (.int ((x0 &&& (536870911 : Int32)) % (268435457 : Int32))), .val (.int s_), .val (.long ((4 : Int64) * (((x0 &&& (536870911 : Int32)) % (268435457 : Int32)).toInt64))), .second, .val (.int (1 : Int32)), .unset] [(.int (1 : Int32))])) _
      refine XS.goto X36.here hx rfl (pc0 := 77) (pc' := 81) rfl (hb hby at_77) (by decide) (by decide) ?_
      show Steps p.tables e below (T36.setTop (mkF m 81 #[.val (.int x0), .val (.int ((x0 &&& (536870911 : Int32)) % (268435457 : Int32))), .val (.int s_), .val (.long ((4 : Int64) * (((x0 &&& (536870911 : Int32)) % (268435457 : Int32)).toInt64))), .second, .val (.int (1 : Int32)), .unset] [(.int (1 : Int32))])) _
      refine XS.istore X36.here hx rfl (hb hby at_81) rfl (l' := #[.val (.int x0), .val (.int ((x0 &&& (536870911 : Int32)) % (268435457 : Int32))), .val (.int s_), .val (.long ((4 : Int64) * (((x0 &&& (536870911 : Int32)) % (268435457 : Int32)).toInt64))), .second, .val (.int (1 : Int32)), .val (.int (1 : Int32))]) rfl ?_
      show Steps p.tables e below (T36.setTop (mkF m 83 #[.val (.int x0), .val (.int ((x0 &&& (536870911 : Int32)) % (268435457 : Int32))), .val (.int s_), .val (.long ((4 : Int64) * (((x0 &&& (536870911 : Int32)) % (268435457 : Int32)).toInt64))), .second, .val (.int (1 : Int32)), .val (.int (1 : Int32))] [])) _
      refine XS.iload X36.here hx rfl (hb hby at_83) rfl ?_
      show Steps p.tables e below (T36.setTop (mkF m 85 #[.val (.int x0), .val (.int ((x0 &&& (536870911 : Int32)) % (268435457 : Int32))), .val (.int s_), .val (.long ((4 : Int64) * (((x0 &&& (536870911 : Int32)) % (268435457 : Int32)).toInt64))), .second, .val (.int (1 : Int32)), .val (.int (1 : Int32))] [(.int (1 : Int32))])) _
      exact retN X36 hx (t := .boolean) Bd.returns (by simp) (hb hby at_85) hr
    · show Q_0 Z x0 s_ h0 n0 _ T36.heap _
      rw [e36q]
      exact ⟨rfl, N36⟩
set_option maxRecDepth 65536 in
set_option maxHeartbeats 40000000 in
theorem comes_1 {Post : Tables → Env → Array Value → State → Outcome → State → Prop} (hpost : ∀ tb e args s v u, (limb_1_1.after args s (.returned v) u = true ∧ limb_1_2.after args s (.returned v) u = true ∧ True) → FrameEnd s (.returned v) u (Jvm.fieldLocs frame_1_writes args s ++ Jvm.arrayLocs frame_1_arrays args s ++ Jvm.staticLocs frame_1_statics s) 0 0 → Post tb e args s (.returned v) u) :
    ArmFor flags0 classFile x code maxLocals ret World_1 tables_1 room_1 Calls_1 rest_1 Pre_1 Post := by
  intro l hfl _ _ p e ha hc hk s m args below hf hA hF happ hP
  obtain ⟨hcalls, hrest, hpre⟩ := hP
  obtain ⟨-, -, -, hnamed, -, -, -, hat⟩ := (Spec.applies_iff hf).mp happ
  obtain ⟨hg, hn⟩ := and_e (Cond.before_iff.mp (show (Jvm.Cond.and given_1 narrow_1).before args s = true from hpre))
  obtain ⟨g39, g40⟩ := and_e hg
  obtain ⟨w0, rfl⟩ : ∃ w0 : Value, args = #[w0] := by
    have hs : args.size = 1 := by simpa [Cond.value, given_1] using g39
    obtain ⟨L⟩ := args
    match L, hs with
    | [w0], _ => exact ⟨w0, rfl⟩
  have hw := fun d (hd : d ∈ tables_1) => atoms_spec (ws := Jvm.Cond.code x code maxLocals ret :: tables_1) hat d (List.mem_cons_of_mem _ hd)
  have hfit : Fit s := fun {y c} hc i hi => by
    obtain ⟨ha, rfl⟩ := Array.getElem?_eq_some_iff.mp hc
    have q := List.all_eq_true.mp ((Array.all_eq_true_iff_forall_mem.mp hF) _ (Array.getElem_mem ha)) i (List.mem_range.mpr hi)
    simpa [Array.getElem?_eq_getElem hi] using q
  obtain ⟨x0, ei0⟩ := is_v g40
  obtain rfl : w0 = (.int x0) := Option.some.inj ei0
  obtain ⟨s_, hgd⟩ := own_all ((x0 &&& 536870911) % 268435457) (own_K x0).1 (own_K x0).2
  have hpos : (0 : Int32) < own_max 1 ((4 * ((x0 &&& 536870911) % 268435457)) - 1) := by
    have := (own_val ((x0 &&& 536870911) % 268435457) (own_K x0).1 (own_K x0).2).1
    rw [Int32.lt_iff_toInt_lt, show (0 : Int32).toInt = 0 from rfl]
    omega
  obtain ⟨n, o, h1, h2, h3, _, L, rfl, ⟨rfl, N⟩, hq⟩ := rm_0 l s _ hw tables_1 x0 s_ s.heap s.heap.size (Nat.le_refl _) hpos hgd p e ha hc hk s m _ below hf ((Spec.applies_iff_loose hf).mp happ).1 ⟨rfl, State.Warmed39.refl s, rfl⟩ trivial
  refine ⟨n, _, h1, h2, h3, hpost _ _ _ _ _ _ ⟨Cond.after_iff.mpr rfl, Cond.after_iff.mpr (eq_i res_at (Term.int_eval (1)) rfl), trivial⟩ ⟨hq.1, hq.2.1, (hq.2.2.sift fun y hy => Or.inr (N y hy)).mono (by decide) (by decide)⟩⟩
theorem main_1_1 : Claimed_1_1 := comes_1 fun _ _ _ _ _ _ h hF => ⟨h.1, hF⟩
theorem main_1_2 : Claimed_1_2 := comes_1 fun _ _ _ _ _ _ h hF => ⟨h.2.1, hF⟩
end Jvm.Pilot.@@N@@
namespace Jvm.Pilot.@@N@@
open Jvm Jvm.ClassFile Sem Op Lib Jvm.Free Jvm.Stand Jvm.Pilot.@@N@@.Jvm.D
/-! MADE BY PROGRAM (witnessworld.py) out of the Statement's table words and the real class files: 15 classes; the members and pool entries that the words name. The judged class is class 1, her method 1. -/
namespace start1
open Jvm.ClassFile
def u (s : String) : CpInfo := .utf8 (stringToUtf16 s)
/-- a pool by its gaps: so many unusable entries, then the entry; so many at the end -/
def gap : Nat → List CpInfo → List CpInfo
  | 0, r => r
  | n + 1, r => .unusable :: gap n r
def poolList (es : List (Nat × CpInfo)) (last : Nat) : List CpInfo := es.foldr (fun e r => gap e.1 (e.2 :: r)) (gap last [])
def pool (es : List (Nat × CpInfo)) (last : Nat) : Array CpInfo := ⟨poolList es last⟩
def fileOf (pool : Array CpInfo) (this : Nat) (attrs : Array Attribute := #[]) (ms : Array MethodInfo := #[]) (fl : Nat := 33) (sup : Nat := 0) (ifs : Array Nat := #[]) (fds : Array FieldInfo := #[]) : ClassFile where
  minorVersion := 0
  majorVersion := 65
  constantPool := pool
  accessFlags := fl
  thisClass := this
  superClass := sup
  interfaces := ifs
  fields := fds
  methods := ms
  attributes := attrs
def plain (name : String) (sup : Option ClassId) : Class where
  name := name
  kind := .ordinary
  loader := none
  accessFlags := 33
  super := sup
  interfaces := #[]
  cf := none
  fields := #[]
  methods := #[]
  instanceTypes := #[]
  staticTypes := #[]
  resolved := #[]
  callSites := []
  init := .initialized
  statics := none
  mirror := none

def pool0 : Array CpInfo := pool [(5, u "<init>"), (0, u "()V"), (1, .class_ 10), (1, u "java/lang/Object")] 113

def k0m0 : Method := { name := "<init>", desc := "()V", sig := { parameters := [], returnType := none }, accessFlags := 1, code := none }
/-- java/lang/Object -/
def k0 : Class := { plain "java/lang/Object" none with
  accessFlags := 33
  interfaces := #[]
  cf := some (fileOf pool0 8 #[] #[{ accessFlags := 1, nameIndex := 5, descriptorIndex := 6, attributes := #[] }] 33 0 #[] #[])
  fields := #[]
  methods := #[k0m0]
  instanceTypes := #[]
  staticTypes := #[]
  resolved := Array.replicate 124 none
  statics := none }

def pool1 : Array CpInfo := pool [(2, .class_ 4), (1, u "java/lang/Object"), (0, u "<init>"), (0, u "()V"), (0, .integer 536870911), (0, .integer 268435457), (0, .methodref 10 11), (0, .class_ 12), (0, .nameAndType 13 14), (0, u "io/tidecache/OpenAddressing"), (0, u "slotsFor"), (0, u "(I)I"), (0, .long 4), (1, .class_ 18), (0, u "io/tidecache/OpenAddressingSlotsForPinLaw"), (2, u "law"), (0, u "(I)Z")] 3

def k1m0 : Method := { name := "<init>", desc := "()V", sig := { parameters := [], returnType := none }, accessFlags := 2, code := none }
def k1c1 : Code := { maxStack := 4, maxLocals := 7, code := code, exceptionTable := #[], attributes := #[] }
def k1m1 : Method := { name := "law", desc := "(I)Z", sig := { parameters := [.int], returnType := some .boolean }, accessFlags := 9, code := some k1c1 }
/-- io/tidecache/OpenAddressingSlotsForPinLaw -/
def k1 : Class := { plain "io/tidecache/OpenAddressingSlotsForPinLaw" (some 0) with
  accessFlags := 49
  interfaces := #[]
  cf := some (fileOf pool1 17 #[] #[{ accessFlags := 2, nameIndex := 5, descriptorIndex := 6, attributes := #[] }, { accessFlags := 9, nameIndex := 21, descriptorIndex := 22, attributes := #[] }] 49 2 #[] #[])
  fields := #[]
  methods := #[k1m0, k1m1]
  instanceTypes := #[]
  staticTypes := #[]
  resolved := Array.replicate 26 none
  statics := none }

def pool2 : Array CpInfo := pool [(2, .class_ 4), (1, u "java/lang/Object"), (0, u "<init>"), (0, u "()V"), (0, .class_ 8), (0, u "io/tidecache/OpenAddressing"), (0, .methodref 10 11), (0, .class_ 12), (0, .nameAndType 13 14), (0, u "java/lang/Math"), (0, u "max"), (0, u "(II)I"), (0, .methodref 16 17), (0, .class_ 18), (0, .nameAndType 19 20), (0, u "java/lang/Integer"), (0, u "highestOneBit"), (0, u "(I)I"), (4, u "SLOTS_PER_KEY"), (0, u "I"), (2, u "SPREAD"), (2, u "slotsFor")] 4

def k2m0 : Method := { name := "<init>", desc := "()V", sig := { parameters := [], returnType := none }, accessFlags := 2, code := none }
def k2c1 : Code := { maxStack := 3, maxLocals := 1, code := prog_42_method_2_code, exceptionTable := #[], attributes := #[] }
def k2m1 : Method := { name := "slotsFor", desc := "(I)I", sig := { parameters := [.int], returnType := some .int }, accessFlags := 8, code := some k2c1 }
/-- io/tidecache/OpenAddressing -/
def k2 : Class := { plain "io/tidecache/OpenAddressing" (some 0) with
  accessFlags := 48
  interfaces := #[]
  cf := some (fileOf pool2 7 #[] #[{ accessFlags := 2, nameIndex := 5, descriptorIndex := 6, attributes := #[] }, { accessFlags := 8, nameIndex := 32, descriptorIndex := 20, attributes := #[] }] 48 2 #[] #[{ accessFlags := 24, nameIndex := 25, descriptorIndex := 26, attributes := #[] }, { accessFlags := 26, nameIndex := 29, descriptorIndex := 26, attributes := #[] }])
  fields := #[{ name := "SLOTS_PER_KEY", type := .int, accessFlags := 24, slot := 0, constantValue := 0 }, { name := "SPREAD", type := .int, accessFlags := 26, slot := 1, constantValue := 0 }]
  methods := #[k2m0, k2m1]
  instanceTypes := #[]
  staticTypes := #[.int, .int]
  resolved := Array.replicate 37 none
  statics := none }

def pool3 : Array CpInfo := pool [(1, .class_ 2), (0, u "java/lang/Math"), (1, .class_ 6), (1, u "java/lang/Object"), (0, u "<init>"), (0, u "()V"), (89, .class_ 100), (1, u "java/lang/Math$RandomNumberGeneratorHolder"), (71, u "negativeZeroFloatBits"), (0, u "J"), (2, u "negativeZeroDoubleBits"), (21, u "max"), (46, u "$assertionsDisabled"), (0, u "Z"), (88, u "(II)I"), (2, u "twoToTheDoubleScaleDown"), (0, u "D"), (4, u "twoToTheDoubleScaleUp"), (9, u "E"), (3, u "PI"), (2, u "TAU"), (2, u "DEGREES_TO_RADIANS"), (0, u "RADIANS_TO_DEGREES")] 94

def k3m0 : Method := { name := "<init>", desc := "()V", sig := { parameters := [], returnType := none }, accessFlags := 2, code := none }
def k3c1 : Code := { maxStack := 2, maxLocals := 2, code := jdk_29_method_65_code, exceptionTable := #[], attributes := #[] }
def k3m1 : Method := { name := "max", desc := "(II)I", sig := { parameters := [.int, .int], returnType := some .int }, accessFlags := 9, code := some k3c1 }
/-- java/lang/Math -/
def k3 : Class := { plain "java/lang/Math" (some 0) with
  accessFlags := 49
  interfaces := #[]
  cf := some (fileOf pool3 1 #[.nestMembers #[98]] #[{ accessFlags := 2, nameIndex := 7, descriptorIndex := 8, attributes := #[] }, { accessFlags := 9, nameIndex := 198, descriptorIndex := 335, attributes := #[] }] 49 4 #[] #[{ accessFlags := 25, nameIndex := 354, descriptorIndex := 339, attributes := #[] }, { accessFlags := 25, nameIndex := 358, descriptorIndex := 339, attributes := #[] }, { accessFlags := 25, nameIndex := 361, descriptorIndex := 339, attributes := #[] }, { accessFlags := 26, nameIndex := 364, descriptorIndex := 339, attributes := #[] }, { accessFlags := 26, nameIndex := 365, descriptorIndex := 339, attributes := #[] }, { accessFlags := 26, nameIndex := 172, descriptorIndex := 173, attributes := #[] }, { accessFlags := 26, nameIndex := 176, descriptorIndex := 173, attributes := #[] }, { accessFlags := 8, nameIndex := 344, descriptorIndex := 339, attributes := #[] }, { accessFlags := 8, nameIndex := 338, descriptorIndex := 339, attributes := #[] }, { accessFlags := 4120, nameIndex := 245, descriptorIndex := 246, attributes := #[] }])
  fields := #[{ name := "E", type := .double, accessFlags := 25, slot := 0, constantValue := 0 }, { name := "PI", type := .double, accessFlags := 25, slot := 1, constantValue := 0 }, { name := "TAU", type := .double, accessFlags := 25, slot := 2, constantValue := 0 }, { name := "DEGREES_TO_RADIANS", type := .double, accessFlags := 26, slot := 3, constantValue := 0 }, { name := "RADIANS_TO_DEGREES", type := .double, accessFlags := 26, slot := 4, constantValue := 0 }, { name := "negativeZeroFloatBits", type := .long, accessFlags := 26, slot := 5, constantValue := 0 }, { name := "negativeZeroDoubleBits", type := .long, accessFlags := 26, slot := 6, constantValue := 0 }, { name := "twoToTheDoubleScaleUp", type := .double, accessFlags := 8, slot := 7, constantValue := 0 }, { name := "twoToTheDoubleScaleDown", type := .double, accessFlags := 8, slot := 8, constantValue := 0 }, { name := "$assertionsDisabled", type := .boolean, accessFlags := 4120, slot := 9, constantValue := 0 }]
  methods := #[k3m0, k3m1]
  instanceTypes := #[]
  staticTypes := #[.double, .double, .double, .double, .double, .long, .long, .double, .double, .boolean]
  resolved := Array.replicate 460 none
  statics := none }

def pool4 : Array CpInfo := pool [(1, .class_ 2), (0, u "java/io/Serializable"), (0, .class_ 4), (0, u "java/lang/Object")] 2

/-- java/io/Serializable -/
def k4 : Class := { plain "java/io/Serializable" (some 0) with
  accessFlags := 1537
  interfaces := #[]
  cf := some (fileOf pool4 1 #[] #[] 1537 3 #[] #[])
  fields := #[]
  methods := #[]
  instanceTypes := #[]
  staticTypes := #[]
  resolved := Array.replicate 7 none
  statics := none }

def pool5 : Array CpInfo := pool [(2, .class_ 4), (1, u "java/lang/Object"), (0, u "<init>"), (0, u "()V"), (1, .class_ 10), (1, u "java/lang/Number"), (2, .class_ 14), (0, u "java/io/Serializable"), (0, u "serialVersionUID"), (0, u "J")] 20

def k5m0 : Method := { name := "<init>", desc := "()V", sig := { parameters := [], returnType := none }, accessFlags := 1, code := none }
/-- java/lang/Number -/
def k5 : Class := { plain "java/lang/Number" (some 0) with
  accessFlags := 1057
  interfaces := #[4]
  cf := some (fileOf pool5 8 #[] #[{ accessFlags := 1, nameIndex := 5, descriptorIndex := 6, attributes := #[] }] 1057 2 #[13] #[{ accessFlags := 26, nameIndex := 15, descriptorIndex := 16, attributes := #[] }])
  fields := #[{ name := "serialVersionUID", type := .long, accessFlags := 26, slot := 0, constantValue := 0 }]
  methods := #[k5m0]
  instanceTypes := #[]
  staticTypes := #[.long]
  resolved := Array.replicate 37 none
  statics := none }

def pool6 : Array CpInfo := pool [(1, .class_ 2), (0, u "java/lang/Comparable"), (0, .class_ 4), (0, u "java/lang/Object")] 7

/-- java/lang/Comparable -/
def k6 : Class := { plain "java/lang/Comparable" (some 0) with
  accessFlags := 1537
  interfaces := #[]
  cf := some (fileOf pool6 1 #[] #[] 1537 3 #[] #[])
  fields := #[]
  methods := #[]
  instanceTypes := #[]
  staticTypes := #[]
  resolved := Array.replicate 12 none
  statics := none }

def pool7 : Array CpInfo := pool [(1, .class_ 2), (0, u "java/lang/constant/Constable"), (0, .class_ 4), (0, u "java/lang/Object")] 6

/-- java/lang/constant/Constable -/
def k7 : Class := { plain "java/lang/constant/Constable" (some 0) with
  accessFlags := 1537
  interfaces := #[]
  cf := some (fileOf pool7 1 #[] #[] 1537 3 #[] #[])
  fields := #[]
  methods := #[]
  instanceTypes := #[]
  staticTypes := #[]
  resolved := Array.replicate 11 none
  statics := none }

def pool8 : Array CpInfo := pool [(1, .class_ 2), (0, u "java/lang/constant/ConstantDesc"), (0, .class_ 4), (0, u "java/lang/Object")] 32

/-- java/lang/constant/ConstantDesc -/
def k8 : Class := { plain "java/lang/constant/ConstantDesc" (some 0) with
  accessFlags := 1537
  interfaces := #[]
  cf := some (fileOf pool8 1 #[] #[] 1537 3 #[] #[])
  fields := #[]
  methods := #[]
  instanceTypes := #[]
  staticTypes := #[]
  resolved := Array.replicate 37 none
  statics := none }

def pool9 : Array CpInfo := pool [(1, .class_ 2), (0, u "java/lang/Integer"), (16, u "digits"), (0, u "[C"), (30, .methodref 1 52), (0, .nameAndType 53 54), (0, u "numberOfLeadingZeros"), (0, u "(I)I"), (30, u "DigitOnes"), (0, u "[B"), (2, u "DigitTens"), (37, .integer 2147483648), (61, .class_ 190), (0, u "java/lang/Integer$IntegerCache"), (3, u "I"), (8, .class_ 204), (0, u "java/lang/Number"), (2, u "value"), (56, .integer 65536), (37, u "TYPE"), (0, u "Ljava/lang/Class;"), (0, .class_ 305), (0, u "java/lang/Comparable"), (0, .class_ 307), (0, u "java/lang/constant/Constable"), (0, .class_ 309), (0, u "java/lang/constant/ConstantDesc"), (0, u "MIN_VALUE"), (1, u "MAX_VALUE"), (3, u "SIZE"), (1, u "BYTES"), (1, u "serialVersionUID"), (0, u "J"), (81, u "highestOneBit")] 49

def k9c0 : Code := { maxStack := 3, maxLocals := 1, code := jdk_33_method_45_code, exceptionTable := #[], attributes := #[] }
def k9m0 : Method := { name := "highestOneBit", desc := "(I)I", sig := { parameters := [.int], returnType := some .int }, accessFlags := 9, code := some k9c0 }
def k9c1 : Code := { maxStack := 3, maxLocals := 2, code := jdk_33_method_47_code, exceptionTable := #[], attributes := #[] }
def k9m1 : Method := { name := "numberOfLeadingZeros", desc := "(I)I", sig := { parameters := [.int], returnType := some .int }, accessFlags := 9, code := some k9c1 }
/-- java/lang/Integer -/
def k9 : Class := { plain "java/lang/Integer" (some 5) with
  accessFlags := 49
  interfaces := #[6, 7, 8]
  cf := some (fileOf pool9 1 #[.nestMembers #[189]] #[{ accessFlags := 9, nameIndex := 403, descriptorIndex := 54, attributes := #[] }, { accessFlags := 9, nameIndex := 53, descriptorIndex := 54, attributes := #[] }] 49 203 #[304, 306, 308] #[{ accessFlags := 25, nameIndex := 310, descriptorIndex := 194, attributes := #[] }, { accessFlags := 25, nameIndex := 312, descriptorIndex := 194, attributes := #[] }, { accessFlags := 25, nameIndex := 302, descriptorIndex := 303, attributes := #[] }, { accessFlags := 24, nameIndex := 19, descriptorIndex := 20, attributes := #[] }, { accessFlags := 24, nameIndex := 89, descriptorIndex := 86, attributes := #[] }, { accessFlags := 24, nameIndex := 85, descriptorIndex := 86, attributes := #[] }, { accessFlags := 18, nameIndex := 207, descriptorIndex := 194, attributes := #[] }, { accessFlags := 25, nameIndex := 316, descriptorIndex := 194, attributes := #[] }, { accessFlags := 25, nameIndex := 318, descriptorIndex := 194, attributes := #[] }, { accessFlags := 26, nameIndex := 320, descriptorIndex := 321, attributes := #[] }])
  fields := #[{ name := "MIN_VALUE", type := .int, accessFlags := 25, slot := 0, constantValue := 0 }, { name := "MAX_VALUE", type := .int, accessFlags := 25, slot := 1, constantValue := 0 }, { name := "TYPE", type := (.object "java/lang/Class"), accessFlags := 25, slot := 2, constantValue := 0 }, { name := "digits", type := (.array .char), accessFlags := 24, slot := 3, constantValue := 0 }, { name := "DigitTens", type := (.array .byte), accessFlags := 24, slot := 4, constantValue := 0 }, { name := "DigitOnes", type := (.array .byte), accessFlags := 24, slot := 5, constantValue := 0 }, { name := "value", type := .int, accessFlags := 18, slot := 0, constantValue := 0 }, { name := "SIZE", type := .int, accessFlags := 25, slot := 6, constantValue := 0 }, { name := "BYTES", type := .int, accessFlags := 25, slot := 7, constantValue := 0 }, { name := "serialVersionUID", type := .long, accessFlags := 26, slot := 8, constantValue := 0 }]
  methods := #[k9m0, k9m1]
  instanceTypes := #[.int]
  staticTypes := #[.int, .int, (.object "java/lang/Class"), (.array .char), (.array .byte), (.array .byte), .int, .int, .long]
  resolved := Array.replicate 453 none
  statics := none }

def pool10 : Array CpInfo := pool [(1, u "java/lang/Cloneable"), (0, .class_ 1), (0, u "java/lang/Object"), (0, .class_ 3)] 3

/-- java/lang/Cloneable -/
def k10 : Class := { plain "java/lang/Cloneable" (some 0) with
  accessFlags := 1537
  interfaces := #[]
  cf := some (fileOf pool10 2 #[] #[] 1537 4 #[] #[])
  fields := #[]
  methods := #[]
  instanceTypes := #[]
  staticTypes := #[]
  resolved := Array.replicate 8 none
  statics := none }

/-- the primitive byte -/
def k11 : Class := { plain "byte" none with kind := .primitive 'B', accessFlags := 0x411 }
/-- [B -/
def k12 : Class := { plain "[B" (some 0) with kind := .array 11 .byte, interfaces := #[10, 4], accessFlags := 1041 }

/-- the primitive int -/
def k13 : Class := { plain "int" none with kind := .primitive 'I', accessFlags := 0x411 }
/-- [I -/
def k14 : Class := { plain "[I" (some 0) with kind := .array 13 .int, interfaces := #[10, 4], accessFlags := 1041 }

def heap : Heap := #[]
def classes : Array Class := #[k0, k1, k2, k3, k4, k5, k6, k7, k8, k9, k10, k11, k12, k13, k14]
def interned : List (Array UInt16 × Addr) := []
def slotsUsed : Nat := 0
def theMethod : MethodId := ⟨1, 1⟩
def args0 : Array Value := #[.int 5]
def aboutOver (below : List Frame) : State where
  vm := { classes := classes, interned := interned.toArray }
  heap := heap
  slotsUsed := slotsUsed
  threads := #[{ frames := .invoking theMethod args0 :: below }]
def below0 : List Frame := [.native { method := ⟨0, 0⟩, args := #[] }]
def about1 : State := aboutOver below0
def p0 : Program := .bare "" "" ""
def e0 : Env := launch0.env 0 0 0
theorem w_frames : about1.frames = Frame.invoking theMethod args0 :: below0 := rfl
set_option maxRecDepth 65536 in
theorem w_args : argsFit about1.vm theMethod args0 = true := by decide +kernel
set_option maxRecDepth 65536 in
theorem w_heap : heapFits about1 = true := by decide +kernel
set_option maxRecDepth 65536 in
theorem w_runnable : about1.curStatus? = some .runnable := by decide +kernel
set_option maxRecDepth 65536 in
theorem w_alone : about1.alone = true := by decide +kernel
set_option maxRecDepth 65536 in
theorem w_named : about1.methodNamed? x = some theMethod := by decide +kernel
set_option maxRecDepth 65536 in
theorem w_hears : about1.hears theMethod below0 = true := by decide +kernel
set_option maxRecDepth 65536 in
theorem w_ripe : about1.ripe theMethod args0 below0 = true := by decide +kernel
theorem w_running : about1.status = .running := rfl
set_option maxRecDepth 65536 in
theorem w_room : about1.hasRoom e0.platform room_1 = true :=
  launch0.hasRoom_least _ room_1 (by decide +kernel) (by decide +kernel) (by decide +kernel) (by decide +kernel) (by decide +kernel) (by decide +kernel)
theorem allAtoms_all (ts : List Jvm.Cond) (a : Array Jvm.Value) (st : Jvm.State) : (allAtoms ts).before a st = ts.all (fun c => c.before a st) := by
  induction ts with
  | nil => rfl
  | cons c t ih =>
    show (Jvm.Cond.and c (allAtoms t)).before a st = _
    rw [Jvm.Cond.before_and, ih, List.all_cons]
def words1 : List Jvm.Cond := Jvm.Cond.code x code maxLocals ret :: tables_1
/-- a 'code' word, met by the world's own term for the bytes: nothing is compared byte by byte -/
theorem code_word {y : MethodName} {bytes : ByteArray} {mx : Nat} {rt : Option FieldType} {a : Array Value} {s : State} {m : MethodId} {meth : Method} {c : Code} (h1 : s.methodNamed? y = some m) (h2 : s.vm.method? m = some meth) (h3 : meth.code = some c) (h4 : c.code = bytes)
    (h5 : (c.maxLocals == mx && c.exceptionTable.isEmpty && decide (c.maxStack ≤ mostOperands) && decide (meth.sig.returnType = rt) && !meth.locks && decide (parseMethodDescriptor y.desc = some meth.sig)) = true) : (Jvm.Cond.code y bytes mx rt).before a s = true := by
  simp only [Bool.and_eq_true, beq_iff_eq, Bool.not_eq_true', decide_eq_true_eq] at h5
  obtain ⟨⟨⟨⟨⟨g1, g2⟩, g3⟩, g4⟩, g5⟩, g6⟩ := h5
  simp [Cond.before, Cond.holds, Cond.value, h1, h2, h3, h4, g1, g2, g3, g4, g5, g6]
def isCode : Jvm.Cond → Bool
  | .code _ _ _ _ => true
  | _ => false
theorem all_split {L : List Jvm.Cond} {P : Jvm.Cond → Bool} (h1 : L.all (fun c => isCode c || P c) = true) (h2 : ∀ c ∈ L.filter isCode, P c = true) : L.all P = true := by
  refine List.all_eq_true.mpr fun c hc => ?_
  have h := List.all_eq_true.mp h1 c hc
  rcases Bool.eq_false_or_eq_true (isCode c) with hi | hi
  · exact h2 c (List.mem_filter.mpr ⟨hc, hi⟩)
  · simpa [hi] using h
set_option maxRecDepth 65536 in
theorem w_c0 : (Jvm.Cond.code x code maxLocals ret).before args0 about1 = true := code_word (m := ⟨1, 1⟩) (meth := k1m1) (c := k1c1) (by decide +kernel) rfl rfl rfl (by decide +kernel)
set_option maxRecDepth 65536 in
theorem w_c1 : (Jvm.Cond.code ({ cls := "io/tidecache/OpenAddressing", name := "slotsFor", desc := "(I)I" } : Jvm.MethodName) prog_42_method_2_code (1 : Nat) (Option.some Jvm.ClassFile.FieldType.int)).before args0 about1 = true := code_word (m := ⟨2, 1⟩) (meth := k2m1) (c := k2c1) (by decide +kernel) rfl rfl rfl (by decide +kernel)
set_option maxRecDepth 65536 in
theorem w_c2 : (Jvm.Cond.code ({ cls := "java/lang/Math", name := "max", desc := "(II)I" } : Jvm.MethodName) jdk_29_method_65_code (2 : Nat) (Option.some Jvm.ClassFile.FieldType.int)).before args0 about1 = true := code_word (m := ⟨3, 1⟩) (meth := k3m1) (c := k3c1) (by decide +kernel) rfl rfl rfl (by decide +kernel)
set_option maxRecDepth 65536 in
theorem w_c3 : (Jvm.Cond.code ({ cls := "java/lang/Integer", name := "highestOneBit", desc := "(I)I" } : Jvm.MethodName) jdk_33_method_45_code (1 : Nat) (Option.some Jvm.ClassFile.FieldType.int)).before args0 about1 = true := code_word (m := ⟨9, 0⟩) (meth := k9m0) (c := k9c0) (by decide +kernel) rfl rfl rfl (by decide +kernel)
set_option maxRecDepth 65536 in
theorem w_c4 : (Jvm.Cond.code ({ cls := "java/lang/Integer", name := "numberOfLeadingZeros", desc := "(I)I" } : Jvm.MethodName) jdk_33_method_47_code (2 : Nat) (Option.some Jvm.ClassFile.FieldType.int)).before args0 about1 = true := code_word (m := ⟨9, 1⟩) (meth := k9m1) (c := k9c1) (by decide +kernel) rfl rfl rfl (by decide +kernel)
def codes1 : List Jvm.Cond := [Jvm.Cond.code x code maxLocals ret, Jvm.Cond.code ({ cls := "io/tidecache/OpenAddressing", name := "slotsFor", desc := "(I)I" } : Jvm.MethodName) prog_42_method_2_code (1 : Nat) (Option.some Jvm.ClassFile.FieldType.int), Jvm.Cond.code ({ cls := "java/lang/Math", name := "max", desc := "(II)I" } : Jvm.MethodName) jdk_29_method_65_code (2 : Nat) (Option.some Jvm.ClassFile.FieldType.int), Jvm.Cond.code ({ cls := "java/lang/Integer", name := "highestOneBit", desc := "(I)I" } : Jvm.MethodName) jdk_33_method_45_code (1 : Nat) (Option.some Jvm.ClassFile.FieldType.int), Jvm.Cond.code ({ cls := "java/lang/Integer", name := "numberOfLeadingZeros", desc := "(I)I" } : Jvm.MethodName) jdk_33_method_47_code (2 : Nat) (Option.some Jvm.ClassFile.FieldType.int)]
set_option maxRecDepth 65536 in
theorem codes_eq : words1.filter isCode = codes1 := rfl
theorem w_codes : ∀ c ∈ words1.filter isCode, c.before args0 about1 = true := by
  rw [codes_eq]
  intro c hc
  simp only [codes1, List.mem_cons, List.not_mem_nil, or_false] at hc
  rcases hc with rfl | rfl | rfl | rfl | rfl
  · exact w_c0
  · exact w_c1
  · exact w_c2
  · exact w_c3
  · exact w_c4
set_option maxRecDepth 65536 in
theorem w_t1 : words1.all (fun c => isCode c || c.before args0 about1) = true := by decide +kernel
theorem w_tables : (allAtoms (Jvm.Cond.code x code maxLocals ret :: tables_1)).before args0 about1 = true := by
  rw [allAtoms_all]
  show words1.all (fun c => c.before args0 about1) = true
  refine all_split ?_ w_codes
  rw [w_t1]
set_option maxRecDepth 65536 in
theorem w_case : (Jvm.Cond.and given_1 narrow_1).before args0 about1 = true := by decide +kernel
theorem w_applies : (headSpec (Jvm.Cond.code x code maxLocals ret :: tables_1) room_1).applies x e0.platform about1 = true :=
  (Spec.applies_iff w_frames).mpr ⟨w_running, w_runnable, w_alone, w_named, w_hears, w_ripe, w_room, w_tables⟩
theorem atStart : AtStart classFile x code maxLocals ret World_1 tables_1 room_1 Calls_1 rest_1 Pre_1 launch0 p0 e0 about1 theMethod args0 below0 :=
  ⟨lists_1, trivial, launch0.admits_env _ _ _, launch0.least_env, fairChoices_fair.cas, fairChoices_fair.clock, w_frames, w_args, w_heap, w_applies, trivial, trivial, w_case⟩
end start1
theorem witness_1 : WitnessClaimed_1 := ⟨start1.p0, start1.e0, start1.about1, start1.theMethod, start1.args0, start1.below0, start1.atStart⟩
end Jvm.Pilot.@@N@@
