import JvmDerived
import JvmDerived.Pilot.@@N@@Statement
import JvmDerived.Pilot.@@N@@Code
set_option linter.unusedVariables false
set_option linter.unusedSimpArgs false
namespace Jvm.RoadKit
open Sem ClassFile Op Lib Jvm.Stand Jvm.Free Jvm.LawKit
section New
variable {p : Program} {l : Launch} {e : Env} {R : Room} {s : State} {m : MethodId} {args : Array Value} {below : List Frame} {meth : Method} {c : Code} {T : State} {locs : List Loc} {cells slots : Nat}
theorem retI (X : Stand p l e R s m args below meth c T locs cells slots) (hx : p.tables.exec = Jvm.exec) {pc : Nat} {Ls : Array Slot} {z : Int32} {rest : List Value} (hret : meth.sig.returnType = some .int) (hd : decode c.code pc = .ok (.ireturn, 1)) {fs : List Frame}
    (hl : ∀ (f : JFrame) (acts : List Action), f.method = m → f.locked = none → f.entered = [] → (doReturn e (T.setTop f) acts (some (.int z))).1 = T.setFrames fs) : Steps p.tables e below (T.setTop (mkF m pc Ls (.int z :: rest))) (T.setFrames fs) := by
  have hm' : T.vm.method? m = some meth := X.method'
  have hn : narrow .int (.int z) = .int z := rfl
  show Steps p.tables e below (T.setTop { method := m, pc := pc, locals := Ls, stack := _ :: rest, locked := none }) _
  jvm_step X.here [X.here.top, hx, hd, hm', hret, hn]
  first | (intro acts; rw [hl _ acts rfl rfl rfl]) | rw [hl _ _ rfl rfl rfl]
  exact Steps.refl _
theorem own_nar01 {z : Int32} (h : z = 0 ∨ z = 1) : narrow .boolean (.int z) = .int z := by rcases h with rfl | rfl <;> rfl
theorem own_fit01 {z : Int32} (h : z = 0 ∨ z = 1) : fits .boolean (.int z) = true := by rcases h with rfl | rfl <;> decide
theorem own_retZ (X : Stand p l e R s m args below meth c T locs cells slots) (hx : p.tables.exec = Jvm.exec) {pc : Nat} {Ls : Array Slot} {z : Int32} {rest : List Value} (hret : meth.sig.returnType = some .boolean) (hz : z = 0 ∨ z = 1) (hd : decode c.code pc = .ok (.ireturn, 1)) {fs : List Frame}
    (hl : ∀ (f : JFrame) (acts : List Action), f.method = m → f.locked = none → f.entered = [] → (doReturn e (T.setTop f) acts (some (.int z))).1 = T.setFrames fs) : Steps p.tables e below (T.setTop (mkF m pc Ls (.int z :: rest))) (T.setFrames fs) := by
  have hm' : T.vm.method? m = some meth := X.method'
  have hn : narrow .boolean (.int z) = .int z := own_nar01 hz
  show Steps p.tables e below (T.setTop { method := m, pc := pc, locals := Ls, stack := _ :: rest, locked := none }) _
  jvm_step X.here [X.here.top, hx, hd, hm', hret, hn]
  first | (intro acts; rw [hl _ acts rfl rfl rfl]) | rw [hl _ _ rfl rfl rfl]
  exact Steps.refl _
end New
section Own
variable {Z : State} {h h' : Heap} {C n d : String} {w : Value} {a : Addr}
theorem own_sta_keep (F : Sta Z h C n d w) {ws : List Addr} (K : Keep h h' ws) (q : ∀ (st : Addr) (cell : Cell), h[st]? = some cell → cell.vm.isStatics = true → st ∉ ws) : Sta Z h' C n d w := by
  obtain ⟨cf, i, k, f, st, cell, h1, h2, h3, h4, h5, h6, h7⟩ := F
  exact ⟨cf, i, k, f, st, cell, h1, h2, h3, h4, K.2.1 st cell h5 (q st cell h5 h6), h6, h7⟩
theorem own_eqf {args : Array Value} {s : State} {t : Term} {C n d : String} {k : Int32} {x : Addr} (h : (Jvm.Cond.eq (.field t C n d) (.int k)).value args s none s [] = some true) (ht : t.eval args s none [] s = some (.ref x)) : s.fieldOf? x C n d = some (.int k) := by
  simp only [Cond.value, Term.eval, ht, Option.bind_eq_bind, Option.bind_some] at h
  cases hv : s.fieldOf? x C n d with
  | none => simp [hv] at h
  | some v => cases v <;> simp_all
theorem own_eqL {args : Array Value} {s : State} {t : Term} {k : Int64} (h : (Jvm.Cond.eq t (.long k)).value args s none s [] = some true) : t.eval args s none [] s = some (.long k) := by
  simp only [Cond.value, Term.eval] at h
  cases hv : t.eval args s none [] s with
  | none => simp [hv] at h
  | some v => cases v <;> simp_all
theorem own_sta_keep0 (F : Sta Z h C n d w) (K : Keep h h' []) : Sta Z h' C n d w := own_sta_keep F K fun _ _ _ _ q => nomatch q
theorem own_sta_keep1 (F : Sta Z h C n d w) (K : Keep h h' [a]) {C' : String} (E : Exa Z h a C') : Sta Z h' C n d w := own_sta_keep F K fun st cell h1 h2 q => by
  cases List.mem_singleton.mp q
  obtain ⟨c2, _, g1, -, -, g4, -⟩ := E
  cases h1.symm.trans g1
  rw [h2] at g4; cases g4
end Own
end Jvm.RoadKit
namespace Jvm.Pilot.@@N@@
open Jvm Jvm.ClassFile Sem Op Lib Jvm.Free Jvm.Stand Jvm.LawKit Jvm.RoadKit Bundle Jvm.Pilot.@@N@@.Jvm.D
def own_f (q : Int64) : Int64 := q &&& 9223372036854775807
def own_l (q : Int64) : Int64 := q &&& 4611686018427387903
def own_c (p : Int32) : Int32 := p &&& 2147483647
def own_sh (x k : Int32) : Int32 := (x.toUInt32 >>> (k &&& 31).toUInt32).toInt32
def own_n4 (x n : Int32) : Int32 := n - own_sh x 1
def own_n3 (x n : Int32) : Int32 := if x < 4 then own_n4 x n else own_n4 (own_sh x 2) (n + -2)
def own_n2 (x n : Int32) : Int32 := if x < 16 then own_n3 x n else own_n3 (own_sh x 4) (n + -4)
def own_n1 (x n : Int32) : Int32 := if x < 256 then own_n2 x n else own_n2 (own_sh x 8) (n + -8)
def own_n0 (x n : Int32) : Int32 := if x < 65536 then own_n1 x n else own_n1 (own_sh x 16) (n + -16)
def own_nlz32 (x : Int32) : Int32 := if 0 < x then own_n0 x 31 else if x = 0 then 32 else 0
def own_hi (q : Int64) : Int32 := ((q.toUInt64 >>> ((32 : Int32) &&& 0x3f).toInt64.toUInt64).toInt64).toInt32
def own_nlz64 (q : Int64) : Int32 := if own_hi q = 0 then 32 + own_nlz32 q.toInt32 else own_nlz32 (own_hi q)
def own_minI (x y : Int32) : Int32 := if y < x then y else x
def own_minL (x y : Int64) : Int64 := if y < x then y else x
def own_got (f l : Int64) (p : Int32) : Int64 := own_minL (f <<< (own_minI (p - 1) (own_nlz64 f - 1) &&& 0x3f).toInt64) l
def own_exp (f l : Int64) (p : Int32) : Int64 := if f = 0 then 0 else if p - 1 < 62 then (if l >>> ((p - 1) &&& 0x3f).toInt64 < f then l else f <<< ((p - 1) &&& 0x3f).toInt64) else l
def own_P (x n r : Int32) (B : Nat) : Prop := ∃ m : Nat, m ≤ B ∧ ((2 ^ m : Nat) : Int) ≤ x.toInt ∧ x.toInt < 2 * ((2 ^ m : Nat) : Int) ∧ r.toInt = n.toInt - m
theorem own_sh_val (x k : Int32) (j : Nat) (hk : k.toBitVec.toNat % 32 = j) (h0 : 0 < j) (hx : 0 ≤ x.toInt) : (own_sh x k).toInt = x.toInt / (2 ^ j : Nat) := by
  have a := c_iushr x k j hk h0
  have r := rng32 x
  unfold own_sh
  rw [a, Int.emod_eq_of_lt hx (by omega)]
theorem own_P_up {x y n n' r : Int32} {B j : Nat} (hj : j = 2 ∨ j = 4 ∨ j = 8 ∨ j = 16) (hx : y.toInt = x.toInt / (2 ^ j : Nat)) (hn : n'.toInt = n.toInt - j) (h : own_P y n' r B) : own_P x n r (B + j) := by
  obtain ⟨m, h1, h2, h3, h4⟩ := h
  refine ⟨m + j, by omega, ?_, ?_, by omega⟩
  · rw [Nat.pow_add]; generalize 2 ^ m = z at *; rcases hj with rfl | rfl | rfl | rfl <;> omega
  · rw [Nat.pow_add]; generalize 2 ^ m = z at *; rcases hj with rfl | rfl | rfl | rfl <;> omega
theorem own_P_le {x n r : Int32} {B B' : Nat} (h : own_P x n r B) (hb : B ≤ B') : own_P x n r B' := by
  obtain ⟨m, h1, h2⟩ := h; exact ⟨m, by omega, h2⟩
theorem own_isub2 (n k : Int32) (j : Int) (hk : k.toInt = -j) (h1 : 0 ≤ j) (h2 : j ≤ 16) (h3 : 0 ≤ n.toInt) : (n + k).toInt = n.toInt - j := by
  have a := c_iadd n k
  have r := rng32 (n + k)
  have r' := rng32 n
  omega
theorem own_P4 (x n : Int32) (h1 : 1 ≤ x.toInt) (h2 : x.toInt < 4) (hn : 1 ≤ n.toInt) : own_P x n (own_n4 x n) 1 := by
  have a := own_sh_val x 1 1 (by decide) (by decide) (by omega)
  have b := c_isub n (own_sh x 1)
  have r := rng32 (n - own_sh x 1)
  have r' := rng32 n
  unfold own_n4
  have e0 : ((2 ^ 0 : Nat) : Int) = 1 := by decide
  have e1 : ((2 ^ 1 : Nat) : Int) = 2 := by decide
  rw [e1] at a
  rcases Int.lt_or_le x.toInt 2 with h | h
  · exact ⟨0, by decide, by rw [e0]; omega, by rw [e0]; omega, by omega⟩
  · exact ⟨1, by decide, by rw [e1]; omega, by rw [e1]; omega, by omega⟩
theorem own_P3 (x n : Int32) (h1 : 1 ≤ x.toInt) (h2 : x.toInt < 16) (hn : 3 ≤ n.toInt) : own_P x n (own_n3 x n) 3 := by
  unfold own_n3
  have k : (4 : Int32).toInt = 4 := by decide
  split
  · rename_i h; rw [Int32.lt_iff_toInt_lt] at h; exact own_P_le (own_P4 x n h1 (by omega) (by omega)) (by decide)
  · rename_i h; rw [Int32.lt_iff_toInt_lt] at h
    have a := own_sh_val x 2 2 (by decide) (by decide) (by omega)
    have b := own_isub2 n (-2) 2 (by decide) (by decide) (by decide) (by omega)
    exact own_P_up (B := 1) (j := 2) (by decide) a b (own_P4 _ _ (by omega) (by omega) (by omega))
theorem own_P2 (x n : Int32) (h1 : 1 ≤ x.toInt) (h2 : x.toInt < 256) (hn : 7 ≤ n.toInt) : own_P x n (own_n2 x n) 7 := by
  unfold own_n2
  have k : (16 : Int32).toInt = 16 := by decide
  split
  · rename_i h; rw [Int32.lt_iff_toInt_lt] at h; exact own_P_le (own_P3 x n h1 (by omega) (by omega)) (by decide)
  · rename_i h; rw [Int32.lt_iff_toInt_lt] at h
    have a := own_sh_val x 4 4 (by decide) (by decide) (by omega)
    have b := own_isub2 n (-4) 4 (by decide) (by decide) (by decide) (by omega)
    exact own_P_up (B := 3) (j := 4) (by decide) a b (own_P3 _ _ (by omega) (by omega) (by omega))
theorem own_P1 (x n : Int32) (h1 : 1 ≤ x.toInt) (h2 : x.toInt < 65536) (hn : 15 ≤ n.toInt) : own_P x n (own_n1 x n) 15 := by
  unfold own_n1
  have k : (256 : Int32).toInt = 256 := by decide
  split
  · rename_i h; rw [Int32.lt_iff_toInt_lt] at h; exact own_P_le (own_P2 x n h1 (by omega) (by omega)) (by decide)
  · rename_i h; rw [Int32.lt_iff_toInt_lt] at h
    have a := own_sh_val x 8 8 (by decide) (by decide) (by omega)
    have b := own_isub2 n (-8) 8 (by decide) (by decide) (by decide) (by omega)
    exact own_P_up (B := 7) (j := 8) (by decide) a b (own_P2 _ _ (by omega) (by omega) (by omega))
theorem own_P0 (x n : Int32) (h1 : 1 ≤ x.toInt) (hn : 31 ≤ n.toInt) : own_P x n (own_n0 x n) 31 := by
  unfold own_n0
  have k : (65536 : Int32).toInt = 65536 := by decide
  have r := rng32 x
  split
  · rename_i h; rw [Int32.lt_iff_toInt_lt] at h; exact own_P_le (own_P1 x n h1 (by omega) (by omega)) (by decide)
  · rename_i h; rw [Int32.lt_iff_toInt_lt] at h
    have a := own_sh_val x 16 16 (by decide) (by decide) (by omega)
    have b := own_isub2 n (-16) 16 (by decide) (by decide) (by decide) (by omega)
    exact own_P_up (B := 15) (j := 16) (by decide) a b (own_P1 _ _ (by omega) (by omega) (by omega))
theorem own_nlz32_pos (x : Int32) (h : 1 ≤ x.toInt) : ∃ m : Nat, m ≤ 30 ∧ ((2 ^ m : Nat) : Int) ≤ x.toInt ∧ x.toInt < 2 * ((2 ^ m : Nat) : Int) ∧ (own_nlz32 x).toInt = 31 - m := by
  have h0 : (0 : Int32) < x := by rw [Int32.lt_iff_toInt_lt]; have z : (0 : Int32).toInt = 0 := by decide
                                  omega
  have r := rng32 x
  unfold own_nlz32
  rw [if_pos h0]
  obtain ⟨m, a1, a2, a3, a4⟩ := own_P0 x 31 h (by decide)
  have k : (31 : Int32).toInt = 31 := by decide
  refine ⟨m, ?_, a2, a3, by omega⟩
  rcases Nat.lt_or_ge m 31 with q | q
  · omega
  · obtain rfl : m = 31 := by omega
    have e : ((2 ^ 31 : Nat) : Int) = 2147483648 := by decide
    omega
theorem own_hi_val (q : Int64) (h : 0 ≤ q.toInt) : (own_hi q).toInt = q.toInt / 4294967296 := by
  have a := c_lushr q 32 32 (by decide) (by decide)
  have r := rng64 q
  have e : ((2 ^ 32 : Nat) : Int) = 4294967296 := by decide
  rw [e, Int.emod_eq_of_lt h (by omega)] at a
  have b := c_l2i ((q.toUInt64 >>> ((32 : Int32) &&& 0x3f).toInt64.toUInt64).toInt64)
  have r2 := rng32 (own_hi q)
  unfold own_hi at *
  omega
theorem own_nlz64_pos (q : Int64) (h : 1 ≤ q.toInt) : ∃ m : Nat, m ≤ 62 ∧ ((2 ^ m : Nat) : Int) ≤ q.toInt ∧ q.toInt < 2 * ((2 ^ m : Nat) : Int) ∧ (own_nlz64 q).toInt = 63 - m := by
  have a := own_hi_val q (by omega)
  have r := rng64 q
  have z : (0 : Int32).toInt = 0 := by decide
  unfold own_nlz64
  split
  · rename_i h0
    rw [h0, z] at a
    have b := c_l2i q
    have r2 := rng32 q.toInt32
    have c := c_iadd 32 (own_nlz32 q.toInt32)
    have r3 := rng32 (32 + own_nlz32 q.toInt32)
    have k : (32 : Int32).toInt = 32 := by decide
    rcases Int.lt_or_le q.toInt32.toInt 1 with g | g
    · have e0 : own_nlz32 q.toInt32 = 0 := by
        unfold own_nlz32
        rw [if_neg (by rw [Int32.lt_iff_toInt_lt]; omega), if_neg (by rw [← Int32.toInt_inj]; omega)]
      rw [e0] at c r3
      have k32 : ((32 : Int32) + 0).toInt = 32 := by decide
      refine ⟨31, by decide, ?_, ?_, ?_⟩
      · show ((2147483648 : Nat) : Int) ≤ _; omega
      · show _ < 2 * ((2147483648 : Nat) : Int); omega
      · rw [e0]; omega
    · obtain ⟨m, c1, c2, c3, c4⟩ := own_nlz32_pos q.toInt32 g
      exact ⟨m, by omega, by omega, by omega, by omega⟩
  · rename_i h0
    have g : 1 ≤ (own_hi q).toInt := by
      have : (own_hi q).toInt ≠ 0 := fun e => h0 (Int32.toInt_inj.mp (by rw [e, z]))
      omega
    obtain ⟨m, c1, c2, c3, c4⟩ := own_nlz32_pos _ g
    have e : (2 ^ (m + 32) : Nat) = 2 ^ m * 4294967296 := by rw [Nat.pow_add]
    refine ⟨m + 32, by omega, ?_, ?_, by omega⟩ <;> rw [e] <;> generalize 2 ^ m = y at * <;> omega
theorem own_nat (x : Int32) (j : Nat) (h : x.toInt = j) (hj : j < 64) : x.toBitVec.toNat % 64 = j := by
  have e : x.toInt = x.toBitVec.toInt := rfl
  have b := BitVec.toInt_eq_toNat_cond x.toBitVec
  have l := x.toBitVec.isLt
  rw [e] at h
  split at b <;> omega
theorem own_minI_val (x y : Int32) : (own_minI x y).toInt = min x.toInt y.toInt := by
  unfold own_minI
  split <;> (rename_i h; rw [Int32.lt_iff_toInt_lt] at h; omega)
theorem own_minL_val (x y : Int64) : (own_minL x y).toInt = min x.toInt y.toInt := by
  unfold own_minL
  split <;> (rename_i h; rw [Int64.lt_iff_toInt_lt] at h; omega)
theorem own_shl (f : Int64) (k : Int32) (j : Nat) (hk : k.toInt = j) (hj : j < 64) (h0 : 0 ≤ f.toInt) (h1 : f.toInt * (2 ^ j : Nat) < 9223372036854775808) : (f <<< (k &&& 0x3f).toInt64).toInt = f.toInt * (2 ^ j : Nat) := by
  have a := c_lshl f k j (own_nat k j hk hj)
  have r := rng64 (f <<< (k &&& 0x3f).toInt64)
  have p : 0 ≤ f.toInt * ((2 ^ j : Nat) : Int) := Int.mul_nonneg h0 (Int.natCast_nonneg _)
  generalize f.toInt * ((2 ^ j : Nat) : Int) = z at *
  omega
theorem own_pow (a b : Nat) (h : a ≤ b) : 2 ^ a * 2 ^ (b - a) = 2 ^ b := by rw [← Nat.pow_add]; congr 1; omega
theorem own_law (f l : Int64) (p : Int32) (f0 : 0 ≤ f.toInt) (l0 : 0 ≤ l.toInt) (l1 : l.toInt < 4611686018427387904) (p0 : 1 ≤ p.toInt) : own_got f l p = own_exp f l p := by
  have z64 : (0 : Int64).toInt = 0 := by decide
  have hk := c_isub p 1
  have rk := rng32 (p - 1)
  have rp := rng32 p
  have k1 : (1 : Int32).toInt = 1 := by decide
  have hk' : (p - 1).toInt = p.toInt - 1 := by omega
  have k62 : (62 : Int32).toInt = 62 := by decide
  unfold own_got own_exp
  generalize p - 1 = k at *
  have hk0 : 0 ≤ k.toInt := by omega
  clear hk hk' rp p0 k1 p
  by_cases hf : f = 0
  · subst hf
    rw [if_pos rfl]
    apply Int64.toInt_inj.mp
    rw [own_minL_val, z64]
    have e : (0 : Int64) <<< (own_minI k (own_nlz64 0 - 1) &&& 0x3f).toInt64 = 0 := by
      apply Int64.toBitVec_inj.mp
      simp
    rw [e, z64]; omega
  · rw [if_neg hf]
    have f1 : 1 ≤ f.toInt := by
      have : f.toInt ≠ 0 := fun e => hf (Int64.toInt_inj.mp (by rw [e, z64]))
      omega
    obtain ⟨m, m1, m2, m3, m4⟩ := own_nlz64_pos f f1
    have hs := c_isub (own_nlz64 f) 1
    have rs := rng32 (own_nlz64 f - 1)
    have k1 : (1 : Int32).toInt = 1 := by decide
    have hs' : (own_nlz64 f - 1).toInt = 62 - m := by omega
    have hm := own_minI_val k (own_nlz64 f - 1)
    rw [hs'] at hm
    have e62 : (2 ^ 62 : Nat) = 4611686018427387904 := by decide
    have hp := own_pow m 62 (by omega)
    rw [e62] at hp
    -- f * 2^(62-m) lies in [2^62, 2^63)
    have b1 : (4611686018427387904 : Int) ≤ f.toInt * ((2 ^ (62 - m) : Nat) : Int) := by
      have : ((2 ^ m : Nat) : Int) * ((2 ^ (62 - m) : Nat) : Int) ≤ f.toInt * ((2 ^ (62 - m) : Nat) : Int) := Int.mul_le_mul_of_nonneg_right m2 (Int.natCast_nonneg _)
      have e2 : ((2 ^ m : Nat) : Int) * ((2 ^ (62 - m) : Nat) : Int) = ((2 ^ m * 2 ^ (62 - m) : Nat) : Int) := by rw [Int.natCast_mul]
      rw [e2, hp] at this
      exact this
    have b2 : f.toInt * ((2 ^ (62 - m) : Nat) : Int) < 9223372036854775808 := by
      have : f.toInt * ((2 ^ (62 - m) : Nat) : Int) < (2 * ((2 ^ m : Nat) : Int)) * ((2 ^ (62 - m) : Nat) : Int) := Int.mul_lt_mul_of_pos_right m3 (by have := Nat.two_pow_pos (62 - m); omega)
      have e2 : (2 * ((2 ^ m : Nat) : Int)) * ((2 ^ (62 - m) : Nat) : Int) = 2 * ((2 ^ m * 2 ^ (62 - m) : Nat) : Int) := by rw [Int.mul_assoc, Int.natCast_mul]
      rw [e2, hp] at this
      omega
    apply Int64.toInt_inj.mp
    rw [own_minL_val]
    by_cases hc : k.toInt < 62 - m
    · -- no wrap: the shift is k itself
      obtain ⟨j, hj⟩ : ∃ j : Nat, k.toInt = j := ⟨k.toInt.toNat, by omega⟩
      have b3 : f.toInt * ((2 ^ j : Nat) : Int) < 9223372036854775808 := by
        have hq := own_pow j (62 - m) (by omega)
        have : f.toInt * ((2 ^ j : Nat) : Int) ≤ f.toInt * ((2 ^ (62 - m) : Nat) : Int) := by
          refine Int.mul_le_mul_of_nonneg_left ?_ f0
          exact_mod_cast Nat.pow_le_pow_right (by decide) (by omega)
        omega
      have sh1 := own_shl f (own_minI k (own_nlz64 f - 1)) j (by rw [hm]; omega) (by omega) f0 b3
      have sh2 := own_shl f k j hj (by omega) f0 b3
      have sr := c_lshr l k j (own_nat k j hj (by omega))
      rw [if_pos (by rw [Int32.lt_iff_toInt_lt]; omega), sh1]
      have pos : 0 < ((2 ^ j : Nat) : Int) := by have := Nat.two_pow_pos j; omega
      split
      · rename_i h; rw [Int64.lt_iff_toInt_lt, sr] at h
        have := (Int.ediv_lt_iff_lt_mul pos).mp h
        omega
      · rename_i h; rw [Int64.lt_iff_toInt_lt, sr] at h
        rw [sh2]
        have := (Int.le_ediv_iff_mul_le pos).mp (Int.not_lt.mp h)
        omega
    · have sh1 := own_shl f (own_minI k (own_nlz64 f - 1)) (62 - m) (by rw [hm]; omega) (by omega) f0 b2
      rw [sh1]
      have hl : min (f.toInt * ((2 ^ (62 - m) : Nat) : Int)) l.toInt = l.toInt := by omega
      rw [hl]
      by_cases hd : k.toInt < 62
      · rw [if_pos (by rw [Int32.lt_iff_toInt_lt]; omega)]
        obtain ⟨j, hj⟩ : ∃ j : Nat, k.toInt = j := ⟨k.toInt.toNat, by omega⟩
        have sr := c_lshr l k j (own_nat k j hj (by omega))
        have pos : 0 < ((2 ^ j : Nat) : Int) := by have := Nat.two_pow_pos j; omega
        have b4 : f.toInt * ((2 ^ (62 - m) : Nat) : Int) ≤ f.toInt * ((2 ^ j : Nat) : Int) := by
          refine Int.mul_le_mul_of_nonneg_left ?_ f0
          exact_mod_cast Nat.pow_le_pow_right (by decide) (by omega)
        rw [if_pos]
        rw [Int64.lt_iff_toInt_lt, sr]
        exact (Int.ediv_lt_iff_lt_mul pos).mpr (by omega)
      · rw [if_neg (by rw [Int32.lt_iff_toInt_lt]; omega)]
theorem own_f_rng (q : Int64) : 0 ≤ (own_f q).toInt := by
  have h1 : (q &&& 9223372036854775807).toInt = q.toInt % (2 ^ 63 : Nat) := c_maskL q 9223372036854775807 63 (by decide) (by decide)
  unfold own_f
  omega
theorem own_l_rng (q : Int64) : 0 ≤ (own_l q).toInt ∧ (own_l q).toInt < 4611686018427387904 := by
  have h1 : (q &&& 4611686018427387903).toInt = q.toInt % (2 ^ 62 : Nat) := c_maskL q 4611686018427387903 62 (by decide) (by decide)
  unfold own_l
  omega
theorem own_c_rng (p : Int32) (h : ¬ own_c p = 0) : 1 ≤ (own_c p).toInt := by
  have h1 : (p &&& 2147483647).toInt = p.toInt % (2 ^ 31 : Nat) := c_mask p 2147483647 31 (by decide) (by decide)
  have z : (0 : Int32).toInt = 0 := by decide
  have : (own_c p).toInt ≠ 0 := fun e => h (Int32.toInt_inj.mp (by rw [e, z]))
  unfold own_c at *
  omega
theorem d_jdk_30_method_1_code_0 : decode jdk_30_method_1_code 0 = .ok (.aload_n 0, 1) := by decide +kernel
theorem d_jdk_30_method_1_code_1 : decode jdk_30_method_1_code 1 = .ok (.invokespecial 1, 3) := by decide +kernel
theorem d_jdk_30_method_1_code_4 : decode jdk_30_method_1_code 4 = .ok (.return_, 1) := by decide +kernel
def Q_rmR (Z : State) (a1 : Addr) (h0 : Heap) (n0 : Nat) (v : Option Value) (h : Heap) (L : List Loc) : Prop := v = none ∧ Fr n0 L ∧ h = h0
theorem pn_0 : plainName "java/lang/Record" = true := by first | (simp [plainName, overriddenIn]; done) | decide +kernel
theorem ef_0 (m : MethodId) (x0 : Addr) : entryFrame m #[(.ref x0)] 1 = mkF m 0 #[.val (.ref x0)] [] := by first | (simp [entryFrame, mkF, argsToLocals, Value.category]; done) | rfl
set_option maxRecDepth 65536 in
set_option maxHeartbeats 40000000 in
theorem rmR (l : Launch) (Z : State) (a0 : Array Value) (hw : ∀ d ∈ tables_1, d.before a0 Z = true) (ws : List Jvm.Cond) (a1 : Addr) (h0 : Heap) (n0 : Nat) (Z0 : n0 ≤ h0.size) :
    MetFree l (⟨"java/lang/Record", "<init>", "()V"⟩ : MethodName) (head1 (Jvm.Cond.code (⟨"java/lang/Record", "<init>", "()V"⟩ : MethodName) jdk_30_method_1_code 1 none :: ws) ({ frames := 1, cells := 0, slots := 0, locals := 12 } : Room)) (fun a U => a = #[(.ref a1)] ∧ Z.Warmed39 U.vm ∧ U.heap = h0) (fun _ _ _ _ _ => True) (fun _ U o U' => ∃ v L, o = .returned v ∧ Q_rmR Z a1 h0 n0 v U'.heap L ∧ FrameEnd U o U' L ({ frames := 1, cells := 0, slots := 0, locals := 12 } : Room).cells ({ frames := 1, cells := 0, slots := 0, locals := 12 } : Room).slots) := by
  refine MetFree.of_bodySF (plainFor_of_name pn_0) hisR ?_
  intro p e s m args below meth c s₁ Bd hml0 hP hK
  obtain ⟨rfl, hZ, hh⟩ := hP
  have hx := Bd.exec
  have hby := Bd.bytes
  have hml : c.maxLocals = 1 := hml0
  have hown : s.vm.findClass "java/lang/Record" = some m.cls := findClass_of_methodNamed Bd.named
  have hnm := (name_of_methodNamed Bd.named Bd.method).1
  have X0 : Stand p l e ({ frames := 1, cells := 0, slots := 0, locals := 12 } : Room) s m #[(.ref a1)] below meth c s₁ [] 0 0 := Stand.of_body Bd
  have e0 : s₁.heap = h0 := by rw [← hh, Bd.state]; rfl
  have N0 := Fr.nil n0
  have pre0 : ∀ t, Steps p.tables e below (s₁.setTop (mkF m 0 #[.val (.ref a1)] [])) t → Steps p.tables e below (s₁.setTop (entryFrame m #[(.ref a1)] 1)) t := fun t k => castTop (ef_0 m a1) k
  obtain ⟨T1, X1, e1, st1⟩ := initO X0 hx hZ hown (hw _ (List.mem_of_getElem? (i := 14) rfl)) (hw _ (List.mem_of_getElem? (i := 15) rfl)) (hw _ (List.mem_of_getElem? (i := 16) rfl)) e0 (g := (mkF m 1 #[.val (.ref a1)] [(.ref a1)])) rfl (by rw [hml]; rfl) rfl (hb hby d_jdk_30_method_1_code_1) (by decide) (W := 0) (by show 2 * 0 + _ ≤ _; exact Nat.le_of_eq rfl) (by decide)
  obtain ⟨fs, hr, hrun, hended, hW, hsame⟩ := X1.leave (v := none) (fun _ => rfl)
  refine ⟨_, _, pre0 _ ?_, hrun, hended, _, _, rfl, ?_, ⟨_, rfl⟩, hW, hsame.mono (by decide) (by decide)⟩
  · show Steps p.tables e below (s₁.setTop (mkF m 0 #[.val (.ref a1)] [])) _
    refine XS.aloadN X0.here hx rfl (hb hby d_jdk_30_method_1_code_0) rfl rfl ?_
    show Steps p.tables e below (s₁.setTop (mkF m 1 #[.val (.ref a1)] [(.ref a1)])) _
    refine st1 _ ?_
    show Steps p.tables e below (T1.setTop (mkF m 4 #[.val (.ref a1)] [])) _
    exact X1.returnOut hx Bd.returns (hb hby d_jdk_30_method_1_code_4) hr
  · show Q_rmR Z a1 h0 n0 _ T1.heap _
    rw [e1]
    exact ⟨rfl, N0, rfl⟩
theorem d_prog_11_method_1_code_0 : decode prog_11_method_1_code 0 = .ok (.aload_n 0, 1) := by decide +kernel
theorem d_prog_11_method_1_code_1 : decode prog_11_method_1_code 1 = .ok (.invokespecial 1, 3) := by decide +kernel
theorem pd_0 : parseMethodDescriptor "()V" = some ⟨[], none⟩ := by decide +kernel
theorem d_prog_11_method_1_code_4 : decode prog_11_method_1_code 4 = .ok (.aload_n 0, 1) := by decide +kernel
theorem d_prog_11_method_1_code_5 : decode prog_11_method_1_code 5 = .ok (.lload_n 1, 1) := by decide +kernel
theorem d_prog_11_method_1_code_6 : decode prog_11_method_1_code 6 = .ok (.putfield 7, 3) := by decide +kernel
theorem d_prog_11_method_1_code_9 : decode prog_11_method_1_code 9 = .ok (.aload_n 0, 1) := by decide +kernel
theorem d_prog_11_method_1_code_10 : decode prog_11_method_1_code 10 = .ok (.lload_n 3, 1) := by decide +kernel
theorem d_prog_11_method_1_code_11 : decode prog_11_method_1_code 11 = .ok (.putfield 13, 3) := by decide +kernel
theorem d_prog_11_method_1_code_14 : decode prog_11_method_1_code 14 = .ok (.return_, 1) := by decide +kernel
def Q_rmI (Z : State) (a1 : Addr) (q2 : Int64) (q3 : Int64) (h0 : Heap) (n0 : Nat) (v : Option Value) (h : Heap) (L : List Loc) : Prop := v = none ∧ Fr n0 L ∧ Keep h0 h [a1] ∧ Fld Z h a1 "com/example/gentle_commit/gentlecommit/initiator/RetryWaits" "firstMillis" "J" (.long q2) ∧ Fld Z h a1 "com/example/gentle_commit/gentlecommit/initiator/RetryWaits" "longestMillis" "J" (.long q3)
theorem pn_1 : plainName "com/example/gentle_commit/gentlecommit/initiator/RetryWaits" = true := by first | (simp [plainName, overriddenIn]; done) | decide +kernel
theorem ef_1 (m : MethodId) (x0 : Addr) (x1 : Int64) (x2 : Int64) : entryFrame m #[(.ref x0), (.long x1), (.long x2)] 5 = mkF m 0 #[.val (.ref x0), .val (.long x1), .second, .val (.long x2), .second] [] := by first | (simp [entryFrame, mkF, argsToLocals, Value.category]; done) | rfl
set_option maxRecDepth 65536 in
set_option maxHeartbeats 40000000 in
theorem rmI (l : Launch) (Z : State) (a0 : Array Value) (hw : ∀ d ∈ tables_1, d.before a0 Z = true) (ws : List Jvm.Cond) (a1 : Addr) (q2 : Int64) (q3 : Int64) (h0 : Heap) (n0 : Nat) (Z0 : n0 ≤ h0.size) (F_firstMillis_a1 : Fld Z h0 a1 "com/example/gentle_commit/gentlecommit/initiator/RetryWaits" "firstMillis" "J" (.long (0 : Int64))) (F_longestMillis_a1 : Fld Z h0 a1 "com/example/gentle_commit/gentlecommit/initiator/RetryWaits" "longestMillis" "J" (.long (0 : Int64))) (E_a1 : Exa Z h0 a1 "com/example/gentle_commit/gentlecommit/initiator/RetryWaits") (g_a1 : n0 ≤ a1) :
    MetFree l (⟨"com/example/gentle_commit/gentlecommit/initiator/RetryWaits", "<init>", "(JJ)V"⟩ : MethodName) (head1 (Jvm.Cond.code (⟨"com/example/gentle_commit/gentlecommit/initiator/RetryWaits", "<init>", "(JJ)V"⟩ : MethodName) prog_11_method_1_code 5 none :: ws) ({ frames := 2, cells := 0, slots := 0, locals := 24 } : Room)) (fun a U => a = #[(.ref a1), (.long q2), (.long q3)] ∧ Z.Warmed39 U.vm ∧ U.heap = h0) (fun _ _ _ _ _ => True) (fun _ U o U' => ∃ v L, o = .returned v ∧ Q_rmI Z a1 q2 q3 h0 n0 v U'.heap L ∧ FrameEnd U o U' L ({ frames := 2, cells := 0, slots := 0, locals := 24 } : Room).cells ({ frames := 2, cells := 0, slots := 0, locals := 24 } : Room).slots) := by
  refine MetFree.of_bodySF (plainFor_of_name pn_1) hisR ?_
  intro p e s m args below meth c s₁ Bd hml0 hP hK
  obtain ⟨rfl, hZ, hh⟩ := hP
  have hx := Bd.exec
  have hby := Bd.bytes
  have hml : c.maxLocals = 5 := hml0
  have hown : s.vm.findClass "com/example/gentle_commit/gentlecommit/initiator/RetryWaits" = some m.cls := findClass_of_methodNamed Bd.named
  have hnm := (name_of_methodNamed Bd.named Bd.method).1
  have X0 : Stand p l e ({ frames := 2, cells := 0, slots := 0, locals := 24 } : Room) s m #[(.ref a1), (.long q2), (.long q3)] below meth c s₁ [] 0 0 := Stand.of_body Bd
  have e0 : s₁.heap = h0 := by rw [← hh, Bd.state]; rfl
  have N0 := Fr.nil n0
  have pre0 : ∀ t, Steps p.tables e below (s₁.setTop (mkF m 0 #[.val (.ref a1), .val (.long q2), .second, .val (.long q3), .second] [])) t → Steps p.tables e below (s₁.setTop (entryFrame m #[(.ref a1), (.long q2), (.long q3)] 5)) t := fun t k => castTop (ef_1 m a1 q2 q3) k
  obtain ⟨_, _, ⟨T1, L1, k1, n1⟩, -, X1, ⟨Lc1, hQ1, l1, y1, z1⟩, st1⟩ := X0.specialBack hx (y := (⟨"java/lang/Record", "<init>", "()V"⟩ : MethodName)) rfl hown (mvT hZ (hw _ (List.mem_of_getElem? (i := 9) rfl))) (mvT hZ (hw _ (List.mem_of_getElem? (i := 10) rfl))) (mvT hZ (hw _ (List.mem_of_getElem? (i := 13) rfl))) (by decide) (backOf (W := 0) (rmR l Z a0 hw [] a1 h0 n0 Z0 ) hZ (hw _ (List.mem_of_getElem? (i := 13) rfl)) (hw _ (List.mem_of_getElem? (i := 12) rfl)) (by decide) (by decide)) (g := (mkF m 1 #[.val (.ref a1), .val (.long q2), .second, .val (.long q3), .second] [(.ref a1)])) rfl (by rw [hml]; rfl) (Steps.refl _) (a := a1) (argsL := []) (rest := []) (lenOf pd_0 rfl) rfl (by show 2 * 0 + _ ≤ _; exact Nat.le_of_eq rfl) (hb hby d_prog_11_method_1_code_1) (fun _ _ => ⟨rfl, e0, (by decide : 0 + 0 ≤ _), (by decide : 0 + 0 ≤ _)⟩)
  dsimp only [Pt.U, Pt.locs, Pt.cells, Pt.slots] at X1 l1 y1 z1 st1 hQ1
  subst l1 y1 z1
  obtain ⟨rfl, N1q, e1⟩ := hQ1
  have N1 := Fr.app N0 N1q
  obtain ⟨T2, h2, X2, e2, W2, st2⟩ := putF X1 hx hZ hown (host := "") (Or.inl (hw _ (List.mem_of_getElem? (i := 17) rfl))) Via.refl e1 F_firstMillis_a1 E_a1 (Or.inr ⟨(hw _ (List.mem_of_getElem? (i := 18) rfl)), rfl, hnm⟩) (hw _ (List.mem_of_getElem? (i := 4) rfl)) (ty := .long) (by decide) rfl rfl (g := (mkF m 6 #[.val (.ref a1), .val (.long q2), .second, .val (.long q3), .second] [(.long q2), (.ref a1)])) rfl rfl (hb hby d_prog_11_method_1_code_6)
  have Fw2 := F_firstMillis_a1.same W2
  have Q2 : Keep h0 h2 [a1] := (Keep.refl h0 [a1]).wr W2 (Or.inl (List.mem_of_getElem? (i := 0) rfl))
  have N2 := Fr.snoc X2 N1 g_a1
  obtain ⟨T3, h3, X3, e3, W3, st3⟩ := putF X2 hx hZ hown (host := "") (Or.inl (hw _ (List.mem_of_getElem? (i := 19) rfl))) Via.refl e2 (F_longestMillis_a1.other W2 (Or.inr (slot_ne (Or.inr (hw _ (List.mem_of_getElem? (i := 20) rfl))) (Or.inr (hw _ (List.mem_of_getElem? (i := 18) rfl))) (by decide) (t := .long) (t' := .long) (by decide) (by decide)))) (E_a1.wr W2) (Or.inr ⟨(hw _ (List.mem_of_getElem? (i := 20) rfl)), rfl, hnm⟩) (hw _ (List.mem_of_getElem? (i := 4) rfl)) (ty := .long) (by decide) rfl rfl (g := (mkF m 11 #[.val (.ref a1), .val (.long q2), .second, .val (.long q3), .second] [(.long q3), (.ref a1)])) rfl rfl (hb hby d_prog_11_method_1_code_11)
  have Fw3 := (F_longestMillis_a1.other W2 (Or.inr (slot_ne (Or.inr (hw _ (List.mem_of_getElem? (i := 20) rfl))) (Or.inr (hw _ (List.mem_of_getElem? (i := 18) rfl))) (by decide) (t := .long) (t' := .long) (by decide) (by decide)))).same W3
  have Q3 : Keep h0 h3 [a1] := Q2.wr W3 (Or.inl (List.mem_of_getElem? (i := 0) rfl))
  have N3 := Fr.snoc X3 N2 g_a1
  obtain ⟨fs, hr, hrun, hended, hW, hsame⟩ := X3.leave (v := none) (fun _ => rfl)
  refine ⟨_, _, pre0 _ ?_, hrun, hended, _, _, rfl, ?_, ⟨_, rfl⟩, hW, hsame.mono (by decide) (by decide)⟩
  · show Steps p.tables e below (s₁.setTop (mkF m 0 #[.val (.ref a1), .val (.long q2), .second, .val (.long q3), .second] [])) _
    refine XS.aloadN X0.here hx rfl (hb hby d_prog_11_method_1_code_0) rfl rfl ?_
    show Steps p.tables e below (s₁.setTop (mkF m 1 #[.val (.ref a1), .val (.long q2), .second, .val (.long q3), .second] [(.ref a1)])) _
    refine st1.trans ?_
    show Steps p.tables e below (T1.setTop (mkF m 4 #[.val (.ref a1), .val (.long q2), .second, .val (.long q3), .second] [])) _
    refine XS.aloadN X1.here hx rfl (hb hby d_prog_11_method_1_code_4) rfl rfl ?_
    show Steps p.tables e below (T1.setTop (mkF m 5 #[.val (.ref a1), .val (.long q2), .second, .val (.long q3), .second] [(.ref a1)])) _
    refine XS.lloadN X1.here hx rfl (hb hby d_prog_11_method_1_code_5) rfl ?_
    show Steps p.tables e below (T1.setTop (mkF m 6 #[.val (.ref a1), .val (.long q2), .second, .val (.long q3), .second] [(.long q2), (.ref a1)])) _
    refine st2 _ ?_
    show Steps p.tables e below (T2.setTop (mkF m 9 #[.val (.ref a1), .val (.long q2), .second, .val (.long q3), .second] [])) _
    refine XS.aloadN X2.here hx rfl (hb hby d_prog_11_method_1_code_9) rfl rfl ?_
    show Steps p.tables e below (T2.setTop (mkF m 10 #[.val (.ref a1), .val (.long q2), .second, .val (.long q3), .second] [(.ref a1)])) _
    refine XS.lloadN X2.here hx rfl (hb hby d_prog_11_method_1_code_10) rfl ?_
    show Steps p.tables e below (T2.setTop (mkF m 11 #[.val (.ref a1), .val (.long q2), .second, .val (.long q3), .second] [(.long q3), (.ref a1)])) _
    refine st3 _ ?_
    show Steps p.tables e below (T3.setTop (mkF m 14 #[.val (.ref a1), .val (.long q2), .second, .val (.long q3), .second] [])) _
    exact X3.returnOut hx Bd.returns (hb hby d_prog_11_method_1_code_14) hr
  · show Q_rmI Z a1 q2 q3 h0 n0 _ T3.heap _
    rw [e3]
    exact ⟨rfl, N3, Q3, (Fw2.other W3 (Or.inr (slot_ne (Or.inr (hw _ (List.mem_of_getElem? (i := 18) rfl))) (Or.inr (hw _ (List.mem_of_getElem? (i := 20) rfl))) (by decide) (t := .long) (t' := .long) (by decide) (by decide)))), Fw3⟩
theorem d_jdk_33_method_47_code_0 : decode jdk_33_method_47_code 0 = .ok (.iload_n 0, 1) := by decide +kernel
theorem d_jdk_33_method_47_code_1 : decode jdk_33_method_47_code 1 = .ok (.ifCond .gt 14, 3) := by decide +kernel
theorem d_jdk_33_method_47_code_15 : decode jdk_33_method_47_code 15 = .ok (.bipush 31, 2) := by decide +kernel
theorem d_jdk_33_method_47_code_17 : decode jdk_33_method_47_code 17 = .ok (.istore_n 1, 1) := by decide +kernel
theorem d_jdk_33_method_47_code_18 : decode jdk_33_method_47_code 18 = .ok (.iload_n 0, 1) := by decide +kernel
theorem d_jdk_33_method_47_code_19 : decode jdk_33_method_47_code 19 = .ok (.ldc_w 264, 3) := by decide +kernel
theorem d_jdk_33_method_47_code_22 : decode jdk_33_method_47_code 22 = .ok (.if_icmp .lt 11, 3) := by decide +kernel
theorem d_jdk_33_method_47_code_33 : decode jdk_33_method_47_code 33 = .ok (.iload_n 0, 1) := by decide +kernel
theorem d_jdk_33_method_47_code_34 : decode jdk_33_method_47_code 34 = .ok (.sipush 256, 3) := by decide +kernel
theorem d_jdk_33_method_47_code_37 : decode jdk_33_method_47_code 37 = .ok (.if_icmp .lt 11, 3) := by decide +kernel
theorem d_jdk_33_method_47_code_48 : decode jdk_33_method_47_code 48 = .ok (.iload_n 0, 1) := by decide +kernel
theorem d_jdk_33_method_47_code_49 : decode jdk_33_method_47_code 49 = .ok (.bipush 16, 2) := by decide +kernel
theorem d_jdk_33_method_47_code_51 : decode jdk_33_method_47_code 51 = .ok (.if_icmp .lt 10, 3) := by decide +kernel
theorem d_jdk_33_method_47_code_61 : decode jdk_33_method_47_code 61 = .ok (.iload_n 0, 1) := by decide +kernel
theorem d_jdk_33_method_47_code_62 : decode jdk_33_method_47_code 62 = .ok (.iconst 4, 1) := by decide +kernel
theorem d_jdk_33_method_47_code_63 : decode jdk_33_method_47_code 63 = .ok (.if_icmp .lt 10, 3) := by decide +kernel
theorem d_jdk_33_method_47_code_73 : decode jdk_33_method_47_code 73 = .ok (.iload_n 1, 1) := by decide +kernel
theorem d_jdk_33_method_47_code_74 : decode jdk_33_method_47_code 74 = .ok (.iload_n 0, 1) := by decide +kernel
theorem d_jdk_33_method_47_code_75 : decode jdk_33_method_47_code 75 = .ok (.iconst 1, 1) := by decide +kernel
theorem d_jdk_33_method_47_code_76 : decode jdk_33_method_47_code 76 = .ok (.iushr, 1) := by decide +kernel
theorem d_jdk_33_method_47_code_77 : decode jdk_33_method_47_code 77 = .ok (.isub, 1) := by decide +kernel
theorem d_jdk_33_method_47_code_78 : decode jdk_33_method_47_code 78 = .ok (.ireturn, 1) := by decide +kernel
theorem d_jdk_33_method_47_code_66 : decode jdk_33_method_47_code 66 = .ok (.iinc 1 (-2), 3) := by decide +kernel
theorem d_jdk_33_method_47_code_69 : decode jdk_33_method_47_code 69 = .ok (.iload_n 0, 1) := by decide +kernel
theorem d_jdk_33_method_47_code_70 : decode jdk_33_method_47_code 70 = .ok (.iconst 2, 1) := by decide +kernel
theorem d_jdk_33_method_47_code_71 : decode jdk_33_method_47_code 71 = .ok (.iushr, 1) := by decide +kernel
theorem d_jdk_33_method_47_code_72 : decode jdk_33_method_47_code 72 = .ok (.istore_n 0, 1) := by decide +kernel
theorem d_jdk_33_method_47_code_54 : decode jdk_33_method_47_code 54 = .ok (.iinc 1 (-4), 3) := by decide +kernel
theorem d_jdk_33_method_47_code_57 : decode jdk_33_method_47_code 57 = .ok (.iload_n 0, 1) := by decide +kernel
theorem d_jdk_33_method_47_code_58 : decode jdk_33_method_47_code 58 = .ok (.iconst 4, 1) := by decide +kernel
theorem d_jdk_33_method_47_code_59 : decode jdk_33_method_47_code 59 = .ok (.iushr, 1) := by decide +kernel
theorem d_jdk_33_method_47_code_60 : decode jdk_33_method_47_code 60 = .ok (.istore_n 0, 1) := by decide +kernel
theorem d_jdk_33_method_47_code_40 : decode jdk_33_method_47_code 40 = .ok (.iinc 1 (-8), 3) := by decide +kernel
theorem d_jdk_33_method_47_code_43 : decode jdk_33_method_47_code 43 = .ok (.iload_n 0, 1) := by decide +kernel
theorem d_jdk_33_method_47_code_44 : decode jdk_33_method_47_code 44 = .ok (.bipush 8, 2) := by decide +kernel
theorem d_jdk_33_method_47_code_46 : decode jdk_33_method_47_code 46 = .ok (.iushr, 1) := by decide +kernel
theorem d_jdk_33_method_47_code_47 : decode jdk_33_method_47_code 47 = .ok (.istore_n 0, 1) := by decide +kernel
theorem d_jdk_33_method_47_code_25 : decode jdk_33_method_47_code 25 = .ok (.iinc 1 (-16), 3) := by decide +kernel
theorem d_jdk_33_method_47_code_28 : decode jdk_33_method_47_code 28 = .ok (.iload_n 0, 1) := by decide +kernel
theorem d_jdk_33_method_47_code_29 : decode jdk_33_method_47_code 29 = .ok (.bipush 16, 2) := by decide +kernel
theorem d_jdk_33_method_47_code_31 : decode jdk_33_method_47_code 31 = .ok (.iushr, 1) := by decide +kernel
theorem d_jdk_33_method_47_code_32 : decode jdk_33_method_47_code 32 = .ok (.istore_n 0, 1) := by decide +kernel
theorem d_jdk_33_method_47_code_4 : decode jdk_33_method_47_code 4 = .ok (.iload_n 0, 1) := by decide +kernel
theorem d_jdk_33_method_47_code_5 : decode jdk_33_method_47_code 5 = .ok (.ifCond .ne 8, 3) := by decide +kernel
theorem d_jdk_33_method_47_code_8 : decode jdk_33_method_47_code 8 = .ok (.bipush 32, 2) := by decide +kernel
theorem d_jdk_33_method_47_code_10 : decode jdk_33_method_47_code 10 = .ok (.goto 4, 3) := by decide +kernel
theorem d_jdk_33_method_47_code_14 : decode jdk_33_method_47_code 14 = .ok (.ireturn, 1) := by decide +kernel
theorem d_jdk_33_method_47_code_13 : decode jdk_33_method_47_code 13 = .ok (.iconst 0, 1) := by decide +kernel
def Q_rmZ (Z : State) (p1 : Int32) (h0 : Heap) (n0 : Nat) (v : Option Value) (h : Heap) (L : List Loc) : Prop := v = some (.int (own_nlz32 p1)) ∧ Fr n0 L ∧ h = h0
theorem pn_2 : plainName "java/lang/Integer" = true := by first | (simp [plainName, overriddenIn]; done) | decide +kernel
theorem ef_2 (m : MethodId) (x0 : Int32) : entryFrame m #[(.int x0)] 2 = mkF m 0 #[.val (.int x0), .unset] [] := by first | (simp [entryFrame, mkF, argsToLocals, Value.category]; done) | rfl
set_option maxRecDepth 65536 in
set_option maxHeartbeats 40000000 in
theorem rmZ_ttttt (l : Launch) (Z : State) (a0 : Array Value) (hw : ∀ d ∈ tables_1, d.before a0 Z = true) (ws : List Jvm.Cond) (p1 : Int32) (h0 : Heap) (n0 : Nat) (Z0 : n0 ≤ h0.size) (hc1 : (0 : Int32) < p1) (hc22 : p1 < (65536 : Int32)) (hc37 : p1 < (256 : Int32)) (hc51 : p1 < (16 : Int32)) (hc63 : p1 < (4 : Int32)) (hres : (own_nlz32 p1) = ((31 : Int32) - (own_sh p1 (1 : Int32)))) :
    MetFree l (⟨"java/lang/Integer", "numberOfLeadingZeros", "(I)I"⟩ : MethodName) (head1 (Jvm.Cond.code (⟨"java/lang/Integer", "numberOfLeadingZeros", "(I)I"⟩ : MethodName) jdk_33_method_47_code 2 (some .int) :: ws) ({ frames := 0, cells := 0, slots := 0, locals := 0 } : Room)) (fun a U => a = #[(.int p1)] ∧ Z.Warmed39 U.vm ∧ U.heap = h0) (fun _ _ _ _ _ => True) (fun _ U o U' => ∃ v L, o = .returned v ∧ Q_rmZ Z p1 h0 n0 v U'.heap L ∧ FrameEnd U o U' L ({ frames := 0, cells := 0, slots := 0, locals := 0 } : Room).cells ({ frames := 0, cells := 0, slots := 0, locals := 0 } : Room).slots) := by
  refine MetFree.of_bodySF (plainFor_of_name pn_2) hisR ?_
  intro p e s m args below meth c s₁ Bd hml0 hP hK
  obtain ⟨rfl, hZ, hh⟩ := hP
  have hx := Bd.exec
  have hby := Bd.bytes
  have hml : c.maxLocals = 2 := hml0
  have hown : s.vm.findClass "java/lang/Integer" = some m.cls := findClass_of_methodNamed Bd.named
  have hnm := (name_of_methodNamed Bd.named Bd.method).1
  have X0 : Stand p l e ({ frames := 0, cells := 0, slots := 0, locals := 0 } : Room) s m #[(.int p1)] below meth c s₁ [] 0 0 := Stand.of_body Bd
  have e0 : s₁.heap = h0 := by rw [← hh, Bd.state]; rfl
  have N0 := Fr.nil n0
  have pre0 : ∀ t, Steps p.tables e below (s₁.setTop (mkF m 0 #[.val (.int p1), .unset] [])) t → Steps p.tables e below (s₁.setTop (entryFrame m #[(.int p1)] 2)) t := fun t k => castTop (ef_2 m p1) k
  obtain ⟨fs, hr, hrun, hended, hW, hsame⟩ := X0.leave (v := some (.int ((31 : Int32) - (own_sh p1 (1 : Int32))))) (fun h => by rw [Bd.returns] at h; cases h)
  refine ⟨_, _, pre0 _ ?_, hrun, hended, _, _, rfl, ?_, ⟨_, rfl⟩, hW, hsame.mono (by decide) (by decide)⟩
  · show Steps p.tables e below (s₁.setTop (mkF m 0 #[.val (.int p1), .unset] [])) _
    refine XS.iloadN X0.here hx rfl (hb hby d_jdk_33_method_47_code_0) rfl ?_
    show Steps p.tables e below (s₁.setTop (mkF m 1 #[.val (.int p1), .unset] [(.int p1)])) _
    refine XS.ifYes X0.here hx rfl (pc0 := 1) (pc' := 15) rfl (hb hby d_jdk_33_method_47_code_1) rfl ((if0 _ _).trans (tlt hc1).2.2.1) (by decide) (by decide) ?_
    show Steps p.tables e below (s₁.setTop (mkF m 15 #[.val (.int p1), .unset] [])) _
    refine XS.bipush X0.here hx rfl (hb hby d_jdk_33_method_47_code_15) ?_
    show Steps p.tables e below (s₁.setTop (mkF m 17 #[.val (.int p1), .unset] [(.int (31 : Int32))])) _
    refine XS.istoreN X0.here hx rfl (hb hby d_jdk_33_method_47_code_17) rfl (l' := #[.val (.int p1), .val (.int (31 : Int32))]) rfl ?_
    show Steps p.tables e below (s₁.setTop (mkF m 18 #[.val (.int p1), .val (.int (31 : Int32))] [])) _
    refine XS.iloadN X0.here hx rfl (hb hby d_jdk_33_method_47_code_18) rfl ?_
    show Steps p.tables e below (s₁.setTop (mkF m 19 #[.val (.int p1), .val (.int (31 : Int32))] [(.int p1)])) _
    refine X0.ldcWI hx hown (mvT hZ (hw _ (List.mem_of_getElem? (i := 34) rfl))) (g := (mkF m 19 #[.val (.int p1), .val (.int (31 : Int32))] [(.int p1)])) rfl (hb hby d_jdk_33_method_47_code_19) ?_
    show Steps p.tables e below (s₁.setTop (mkF m 22 #[.val (.int p1), .val (.int (31 : Int32))] [(.int (65536 : Int32)), (.int p1)])) _
    refine XS.icmpYes X0.here hx rfl (pc0 := 22) (pc' := 33) rfl (hb hby d_jdk_33_method_47_code_22) rfl (tlt hc22).1 (by decide) (by decide) ?_
    show Steps p.tables e below (s₁.setTop (mkF m 33 #[.val (.int p1), .val (.int (31 : Int32))] [])) _
    refine XS.iloadN X0.here hx rfl (hb hby d_jdk_33_method_47_code_33) rfl ?_
    show Steps p.tables e below (s₁.setTop (mkF m 34 #[.val (.int p1), .val (.int (31 : Int32))] [(.int p1)])) _
    refine XS.sipush X0.here hx rfl (hb hby d_jdk_33_method_47_code_34) ?_
    show Steps p.tables e below (s₁.setTop (mkF m 37 #[.val (.int p1), .val (.int (31 : Int32))] [(.int (256 : Int32)), (.int p1)])) _
    refine XS.icmpYes X0.here hx rfl (pc0 := 37) (pc' := 48) rfl (hb hby d_jdk_33_method_47_code_37) rfl (tlt hc37).1 (by decide) (by decide) ?_
    show Steps p.tables e below (s₁.setTop (mkF m 48 #[.val (.int p1), .val (.int (31 : Int32))] [])) _
    refine XS.iloadN X0.here hx rfl (hb hby d_jdk_33_method_47_code_48) rfl ?_
    show Steps p.tables e below (s₁.setTop (mkF m 49 #[.val (.int p1), .val (.int (31 : Int32))] [(.int p1)])) _
    refine XS.bipush X0.here hx rfl (hb hby d_jdk_33_method_47_code_49) ?_
    show Steps p.tables e below (s₁.setTop (mkF m 51 #[.val (.int p1), .val (.int (31 : Int32))] [(.int (16 : Int32)), (.int p1)])) _
    refine XS.icmpYes X0.here hx rfl (pc0 := 51) (pc' := 61) rfl (hb hby d_jdk_33_method_47_code_51) rfl (tlt hc51).1 (by decide) (by decide) ?_
    show Steps p.tables e below (s₁.setTop (mkF m 61 #[.val (.int p1), .val (.int (31 : Int32))] [])) _
    refine XS.iloadN X0.here hx rfl (hb hby d_jdk_33_method_47_code_61) rfl ?_
    show Steps p.tables e below (s₁.setTop (mkF m 62 #[.val (.int p1), .val (.int (31 : Int32))] [(.int p1)])) _
    refine XS.iconst X0.here hx rfl (hb hby d_jdk_33_method_47_code_62) ?_
    show Steps p.tables e below (s₁.setTop (mkF m 63 #[.val (.int p1), .val (.int (31 : Int32))] [(.int (4 : Int32)), (.int p1)])) _
    refine XS.icmpYes X0.here hx rfl (pc0 := 63) (pc' := 73) rfl (hb hby d_jdk_33_method_47_code_63) rfl (tlt hc63).1 (by decide) (by decide) ?_
    show Steps p.tables e below (s₁.setTop (mkF m 73 #[.val (.int p1), .val (.int (31 : Int32))] [])) _
    refine XS.iloadN X0.here hx rfl (hb hby d_jdk_33_method_47_code_73) rfl ?_
    show Steps p.tables e below (s₁.setTop (mkF m 74 #[.val (.int p1), .val (.int (31 : Int32))] [(.int (31 : Int32))])) _
    refine XS.iloadN X0.here hx rfl (hb hby d_jdk_33_method_47_code_74) rfl ?_
    show Steps p.tables e below (s₁.setTop (mkF m 75 #[.val (.int p1), .val (.int (31 : Int32))] [(.int p1), (.int (31 : Int32))])) _
    refine XS.iconst X0.here hx rfl (hb hby d_jdk_33_method_47_code_75) ?_
    show Steps p.tables e below (s₁.setTop (mkF m 76 #[.val (.int p1), .val (.int (31 : Int32))] [(.int (1 : Int32)), (.int p1), (.int (31 : Int32))])) _
    refine XS.iushr X0.here hx rfl (hb hby d_jdk_33_method_47_code_76) rfl ?_
    show Steps p.tables e below (s₁.setTop (mkF m 77 #[.val (.int p1), .val (.int (31 : Int32))] [(.int (own_sh p1 (1 : Int32))), (.int (31 : Int32))])) _
    refine XS.isub X0.here hx rfl (hb hby d_jdk_33_method_47_code_77) rfl ?_
    show Steps p.tables e below (s₁.setTop (mkF m 78 #[.val (.int p1), .val (.int (31 : Int32))] [(.int ((31 : Int32) - (own_sh p1 (1 : Int32))))])) _
    exact retI X0 hx Bd.returns (hb hby d_jdk_33_method_47_code_78) hr
  · show Q_rmZ Z p1 h0 n0 _ s₁.heap _
    rw [e0]
    exact ⟨by rw [hres], N0, rfl⟩
set_option maxRecDepth 65536 in
set_option maxHeartbeats 40000000 in
theorem rmZ_ttttf (l : Launch) (Z : State) (a0 : Array Value) (hw : ∀ d ∈ tables_1, d.before a0 Z = true) (ws : List Jvm.Cond) (p1 : Int32) (h0 : Heap) (n0 : Nat) (Z0 : n0 ≤ h0.size) (hc1 : (0 : Int32) < p1) (hc22 : p1 < (65536 : Int32)) (hc37 : p1 < (256 : Int32)) (hc51 : p1 < (16 : Int32)) (hc63 : ¬ (p1 < (4 : Int32))) (hres : (own_nlz32 p1) = (((31 : Int32) + (-2 : Int32)) - (own_sh (own_sh p1 (2 : Int32)) (1 : Int32)))) :
    MetFree l (⟨"java/lang/Integer", "numberOfLeadingZeros", "(I)I"⟩ : MethodName) (head1 (Jvm.Cond.code (⟨"java/lang/Integer", "numberOfLeadingZeros", "(I)I"⟩ : MethodName) jdk_33_method_47_code 2 (some .int) :: ws) ({ frames := 0, cells := 0, slots := 0, locals := 0 } : Room)) (fun a U => a = #[(.int p1)] ∧ Z.Warmed39 U.vm ∧ U.heap = h0) (fun _ _ _ _ _ => True) (fun _ U o U' => ∃ v L, o = .returned v ∧ Q_rmZ Z p1 h0 n0 v U'.heap L ∧ FrameEnd U o U' L ({ frames := 0, cells := 0, slots := 0, locals := 0 } : Room).cells ({ frames := 0, cells := 0, slots := 0, locals := 0 } : Room).slots) := by
  refine MetFree.of_bodySF (plainFor_of_name pn_2) hisR ?_
  intro p e s m args below meth c s₁ Bd hml0 hP hK
  obtain ⟨rfl, hZ, hh⟩ := hP
  have hx := Bd.exec
  have hby := Bd.bytes
  have hml : c.maxLocals = 2 := hml0
  have hown : s.vm.findClass "java/lang/Integer" = some m.cls := findClass_of_methodNamed Bd.named
  have hnm := (name_of_methodNamed Bd.named Bd.method).1
  have X0 : Stand p l e ({ frames := 0, cells := 0, slots := 0, locals := 0 } : Room) s m #[(.int p1)] below meth c s₁ [] 0 0 := Stand.of_body Bd
  have e0 : s₁.heap = h0 := by rw [← hh, Bd.state]; rfl
  have N0 := Fr.nil n0
  have pre0 : ∀ t, Steps p.tables e below (s₁.setTop (mkF m 0 #[.val (.int p1), .unset] [])) t → Steps p.tables e below (s₁.setTop (entryFrame m #[(.int p1)] 2)) t := fun t k => castTop (ef_2 m p1) k
  obtain ⟨fs, hr, hrun, hended, hW, hsame⟩ := X0.leave (v := some (.int (((31 : Int32) + (-2 : Int32)) - (own_sh (own_sh p1 (2 : Int32)) (1 : Int32))))) (fun h => by rw [Bd.returns] at h; cases h)
  refine ⟨_, _, pre0 _ ?_, hrun, hended, _, _, rfl, ?_, ⟨_, rfl⟩, hW, hsame.mono (by decide) (by decide)⟩
  · show Steps p.tables e below (s₁.setTop (mkF m 0 #[.val (.int p1), .unset] [])) _
    refine XS.iloadN X0.here hx rfl (hb hby d_jdk_33_method_47_code_0) rfl ?_
    show Steps p.tables e below (s₁.setTop (mkF m 1 #[.val (.int p1), .unset] [(.int p1)])) _
    refine XS.ifYes X0.here hx rfl (pc0 := 1) (pc' := 15) rfl (hb hby d_jdk_33_method_47_code_1) rfl ((if0 _ _).trans (tlt hc1).2.2.1) (by decide) (by decide) ?_
    show Steps p.tables e below (s₁.setTop (mkF m 15 #[.val (.int p1), .unset] [])) _
    refine XS.bipush X0.here hx rfl (hb hby d_jdk_33_method_47_code_15) ?_
    show Steps p.tables e below (s₁.setTop (mkF m 17 #[.val (.int p1), .unset] [(.int (31 : Int32))])) _
    refine XS.istoreN X0.here hx rfl (hb hby d_jdk_33_method_47_code_17) rfl (l' := #[.val (.int p1), .val (.int (31 : Int32))]) rfl ?_
    show Steps p.tables e below (s₁.setTop (mkF m 18 #[.val (.int p1), .val (.int (31 : Int32))] [])) _
    refine XS.iloadN X0.here hx rfl (hb hby d_jdk_33_method_47_code_18) rfl ?_
    show Steps p.tables e below (s₁.setTop (mkF m 19 #[.val (.int p1), .val (.int (31 : Int32))] [(.int p1)])) _
    refine X0.ldcWI hx hown (mvT hZ (hw _ (List.mem_of_getElem? (i := 34) rfl))) (g := (mkF m 19 #[.val (.int p1), .val (.int (31 : Int32))] [(.int p1)])) rfl (hb hby d_jdk_33_method_47_code_19) ?_
    show Steps p.tables e below (s₁.setTop (mkF m 22 #[.val (.int p1), .val (.int (31 : Int32))] [(.int (65536 : Int32)), (.int p1)])) _
    refine XS.icmpYes X0.here hx rfl (pc0 := 22) (pc' := 33) rfl (hb hby d_jdk_33_method_47_code_22) rfl (tlt hc22).1 (by decide) (by decide) ?_
    show Steps p.tables e below (s₁.setTop (mkF m 33 #[.val (.int p1), .val (.int (31 : Int32))] [])) _
    refine XS.iloadN X0.here hx rfl (hb hby d_jdk_33_method_47_code_33) rfl ?_
    show Steps p.tables e below (s₁.setTop (mkF m 34 #[.val (.int p1), .val (.int (31 : Int32))] [(.int p1)])) _
    refine XS.sipush X0.here hx rfl (hb hby d_jdk_33_method_47_code_34) ?_
    show Steps p.tables e below (s₁.setTop (mkF m 37 #[.val (.int p1), .val (.int (31 : Int32))] [(.int (256 : Int32)), (.int p1)])) _
    refine XS.icmpYes X0.here hx rfl (pc0 := 37) (pc' := 48) rfl (hb hby d_jdk_33_method_47_code_37) rfl (tlt hc37).1 (by decide) (by decide) ?_
    show Steps p.tables e below (s₁.setTop (mkF m 48 #[.val (.int p1), .val (.int (31 : Int32))] [])) _
    refine XS.iloadN X0.here hx rfl (hb hby d_jdk_33_method_47_code_48) rfl ?_
    show Steps p.tables e below (s₁.setTop (mkF m 49 #[.val (.int p1), .val (.int (31 : Int32))] [(.int p1)])) _
    refine XS.bipush X0.here hx rfl (hb hby d_jdk_33_method_47_code_49) ?_
    show Steps p.tables e below (s₁.setTop (mkF m 51 #[.val (.int p1), .val (.int (31 : Int32))] [(.int (16 : Int32)), (.int p1)])) _
    refine XS.icmpYes X0.here hx rfl (pc0 := 51) (pc' := 61) rfl (hb hby d_jdk_33_method_47_code_51) rfl (tlt hc51).1 (by decide) (by decide) ?_
    show Steps p.tables e below (s₁.setTop (mkF m 61 #[.val (.int p1), .val (.int (31 : Int32))] [])) _
    refine XS.iloadN X0.here hx rfl (hb hby d_jdk_33_method_47_code_61) rfl ?_
    show Steps p.tables e below (s₁.setTop (mkF m 62 #[.val (.int p1), .val (.int (31 : Int32))] [(.int p1)])) _
    refine XS.iconst X0.here hx rfl (hb hby d_jdk_33_method_47_code_62) ?_
    show Steps p.tables e below (s₁.setTop (mkF m 63 #[.val (.int p1), .val (.int (31 : Int32))] [(.int (4 : Int32)), (.int p1)])) _
    refine XS.icmpNo X0.here hx rfl (hb hby d_jdk_33_method_47_code_63) rfl (flt hc63).1 ?_
    show Steps p.tables e below (s₁.setTop (mkF m 66 #[.val (.int p1), .val (.int (31 : Int32))] [])) _
    refine XS.iinc X0.here hx rfl (hb hby d_jdk_33_method_47_code_66) rfl (l' := #[.val (.int p1), .val (.int ((31 : Int32) + (-2 : Int32)))]) rfl ?_
    show Steps p.tables e below (s₁.setTop (mkF m 69 #[.val (.int p1), .val (.int ((31 : Int32) + (-2 : Int32)))] [])) _
    refine XS.iloadN X0.here hx rfl (hb hby d_jdk_33_method_47_code_69) rfl ?_
    show Steps p.tables e below (s₁.setTop (mkF m 70 #[.val (.int p1), .val (.int ((31 : Int32) + (-2 : Int32)))] [(.int p1)])) _
    refine XS.iconst X0.here hx rfl (hb hby d_jdk_33_method_47_code_70) ?_
    show Steps p.tables e below (s₁.setTop (mkF m 71 #[.val (.int p1), .val (.int ((31 : Int32) + (-2 : Int32)))] [(.int (2 : Int32)), (.int p1)])) _
    refine XS.iushr X0.here hx rfl (hb hby d_jdk_33_method_47_code_71) rfl ?_
    show Steps p.tables e below (s₁.setTop (mkF m 72 #[.val (.int p1), .val (.int ((31 : Int32) + (-2 : Int32)))] [(.int (own_sh p1 (2 : Int32)))])) _
    refine XS.istoreN X0.here hx rfl (hb hby d_jdk_33_method_47_code_72) rfl (l' := #[.val (.int (own_sh p1 (2 : Int32))), .val (.int ((31 : Int32) + (-2 : Int32)))]) rfl ?_
    show Steps p.tables e below (s₁.setTop (mkF m 73 #[.val (.int (own_sh p1 (2 : Int32))), .val (.int ((31 : Int32) + (-2 : Int32)))] [])) _
    refine XS.iloadN X0.here hx rfl (hb hby d_jdk_33_method_47_code_73) rfl ?_
    show Steps p.tables e below (s₁.setTop (mkF m 74 #[.val (.int (own_sh p1 (2 : Int32))), .val (.int ((31 : Int32) + (-2 : Int32)))] [(.int ((31 : Int32) + (-2 : Int32)))])) _
    refine XS.iloadN X0.here hx rfl (hb hby d_jdk_33_method_47_code_74) rfl ?_
    show Steps p.tables e below (s₁.setTop (mkF m 75 #[.val (.int (own_sh p1 (2 : Int32))), .val (.int ((31 : Int32) + (-2 : Int32)))] [(.int (own_sh p1 (2 : Int32))), (.int ((31 : Int32) + (-2 : Int32)))])) _
    refine XS.iconst X0.here hx rfl (hb hby d_jdk_33_method_47_code_75) ?_
    show Steps p.tables e below (s₁.setTop (mkF m 76 #[.val (.int (own_sh p1 (2 : Int32))), .val (.int ((31 : Int32) + (-2 : Int32)))] [(.int (1 : Int32)), (.int (own_sh p1 (2 : Int32))), (.int ((31 : Int32) + (-2 : Int32)))])) _
    refine XS.iushr X0.here hx rfl (hb hby d_jdk_33_method_47_code_76) rfl ?_
    show Steps p.tables e below (s₁.setTop (mkF m 77 #[.val (.int (own_sh p1 (2 : Int32))), .val (.int ((31 : Int32) + (-2 : Int32)))] [(.int (own_sh (own_sh p1 (2 : Int32)) (1 : Int32))), (.int ((31 : Int32) + (-2 : Int32)))])) _
    refine XS.isub X0.here hx rfl (hb hby d_jdk_33_method_47_code_77) rfl ?_
    show Steps p.tables e below (s₁.setTop (mkF m 78 #[.val (.int (own_sh p1 (2 : Int32))), .val (.int ((31 : Int32) + (-2 : Int32)))] [(.int (((31 : Int32) + (-2 : Int32)) - (own_sh (own_sh p1 (2 : Int32)) (1 : Int32))))])) _
    exact retI X0 hx Bd.returns (hb hby d_jdk_33_method_47_code_78) hr
  · show Q_rmZ Z p1 h0 n0 _ s₁.heap _
    rw [e0]
    exact ⟨by rw [hres], N0, rfl⟩
set_option maxRecDepth 65536 in
set_option maxHeartbeats 40000000 in
theorem rmZ_tttft (l : Launch) (Z : State) (a0 : Array Value) (hw : ∀ d ∈ tables_1, d.before a0 Z = true) (ws : List Jvm.Cond) (p1 : Int32) (h0 : Heap) (n0 : Nat) (Z0 : n0 ≤ h0.size) (hc1 : (0 : Int32) < p1) (hc22 : p1 < (65536 : Int32)) (hc37 : p1 < (256 : Int32)) (hc51 : ¬ (p1 < (16 : Int32))) (hc63 : (own_sh p1 (4 : Int32)) < (4 : Int32)) (hres : (own_nlz32 p1) = (((31 : Int32) + (-4 : Int32)) - (own_sh (own_sh p1 (4 : Int32)) (1 : Int32)))) :
    MetFree l (⟨"java/lang/Integer", "numberOfLeadingZeros", "(I)I"⟩ : MethodName) (head1 (Jvm.Cond.code (⟨"java/lang/Integer", "numberOfLeadingZeros", "(I)I"⟩ : MethodName) jdk_33_method_47_code 2 (some .int) :: ws) ({ frames := 0, cells := 0, slots := 0, locals := 0 } : Room)) (fun a U => a = #[(.int p1)] ∧ Z.Warmed39 U.vm ∧ U.heap = h0) (fun _ _ _ _ _ => True) (fun _ U o U' => ∃ v L, o = .returned v ∧ Q_rmZ Z p1 h0 n0 v U'.heap L ∧ FrameEnd U o U' L ({ frames := 0, cells := 0, slots := 0, locals := 0 } : Room).cells ({ frames := 0, cells := 0, slots := 0, locals := 0 } : Room).slots) := by
  refine MetFree.of_bodySF (plainFor_of_name pn_2) hisR ?_
  intro p e s m args below meth c s₁ Bd hml0 hP hK
  obtain ⟨rfl, hZ, hh⟩ := hP
  have hx := Bd.exec
  have hby := Bd.bytes
  have hml : c.maxLocals = 2 := hml0
  have hown : s.vm.findClass "java/lang/Integer" = some m.cls := findClass_of_methodNamed Bd.named
  have hnm := (name_of_methodNamed Bd.named Bd.method).1
  have X0 : Stand p l e ({ frames := 0, cells := 0, slots := 0, locals := 0 } : Room) s m #[(.int p1)] below meth c s₁ [] 0 0 := Stand.of_body Bd
  have e0 : s₁.heap = h0 := by rw [← hh, Bd.state]; rfl
  have N0 := Fr.nil n0
  have pre0 : ∀ t, Steps p.tables e below (s₁.setTop (mkF m 0 #[.val (.int p1), .unset] [])) t → Steps p.tables e below (s₁.setTop (entryFrame m #[(.int p1)] 2)) t := fun t k => castTop (ef_2 m p1) k
  obtain ⟨fs, hr, hrun, hended, hW, hsame⟩ := X0.leave (v := some (.int (((31 : Int32) + (-4 : Int32)) - (own_sh (own_sh p1 (4 : Int32)) (1 : Int32))))) (fun h => by rw [Bd.returns] at h; cases h)
  refine ⟨_, _, pre0 _ ?_, hrun, hended, _, _, rfl, ?_, ⟨_, rfl⟩, hW, hsame.mono (by decide) (by decide)⟩
  · show Steps p.tables e below (s₁.setTop (mkF m 0 #[.val (.int p1), .unset] [])) _
    refine XS.iloadN X0.here hx rfl (hb hby d_jdk_33_method_47_code_0) rfl ?_
    show Steps p.tables e below (s₁.setTop (mkF m 1 #[.val (.int p1), .unset] [(.int p1)])) _
    refine XS.ifYes X0.here hx rfl (pc0 := 1) (pc' := 15) rfl (hb hby d_jdk_33_method_47_code_1) rfl ((if0 _ _).trans (tlt hc1).2.2.1) (by decide) (by decide) ?_
    show Steps p.tables e below (s₁.setTop (mkF m 15 #[.val (.int p1), .unset] [])) _
    refine XS.bipush X0.here hx rfl (hb hby d_jdk_33_method_47_code_15) ?_
    show Steps p.tables e below (s₁.setTop (mkF m 17 #[.val (.int p1), .unset] [(.int (31 : Int32))])) _
    refine XS.istoreN X0.here hx rfl (hb hby d_jdk_33_method_47_code_17) rfl (l' := #[.val (.int p1), .val (.int (31 : Int32))]) rfl ?_
    show Steps p.tables e below (s₁.setTop (mkF m 18 #[.val (.int p1), .val (.int (31 : Int32))] [])) _
    refine XS.iloadN X0.here hx rfl (hb hby d_jdk_33_method_47_code_18) rfl ?_
    show Steps p.tables e below (s₁.setTop (mkF m 19 #[.val (.int p1), .val (.int (31 : Int32))] [(.int p1)])) _
    refine X0.ldcWI hx hown (mvT hZ (hw _ (List.mem_of_getElem? (i := 34) rfl))) (g := (mkF m 19 #[.val (.int p1), .val (.int (31 : Int32))] [(.int p1)])) rfl (hb hby d_jdk_33_method_47_code_19) ?_
    show Steps p.tables e below (s₁.setTop (mkF m 22 #[.val (.int p1), .val (.int (31 : Int32))] [(.int (65536 : Int32)), (.int p1)])) _
    refine XS.icmpYes X0.here hx rfl (pc0 := 22) (pc' := 33) rfl (hb hby d_jdk_33_method_47_code_22) rfl (tlt hc22).1 (by decide) (by decide) ?_
    show Steps p.tables e below (s₁.setTop (mkF m 33 #[.val (.int p1), .val (.int (31 : Int32))] [])) _
    refine XS.iloadN X0.here hx rfl (hb hby d_jdk_33_method_47_code_33) rfl ?_
    show Steps p.tables e below (s₁.setTop (mkF m 34 #[.val (.int p1), .val (.int (31 : Int32))] [(.int p1)])) _
    refine XS.sipush X0.here hx rfl (hb hby d_jdk_33_method_47_code_34) ?_
    show Steps p.tables e below (s₁.setTop (mkF m 37 #[.val (.int p1), .val (.int (31 : Int32))] [(.int (256 : Int32)), (.int p1)])) _
    refine XS.icmpYes X0.here hx rfl (pc0 := 37) (pc' := 48) rfl (hb hby d_jdk_33_method_47_code_37) rfl (tlt hc37).1 (by decide) (by decide) ?_
    show Steps p.tables e below (s₁.setTop (mkF m 48 #[.val (.int p1), .val (.int (31 : Int32))] [])) _
    refine XS.iloadN X0.here hx rfl (hb hby d_jdk_33_method_47_code_48) rfl ?_
    show Steps p.tables e below (s₁.setTop (mkF m 49 #[.val (.int p1), .val (.int (31 : Int32))] [(.int p1)])) _
    refine XS.bipush X0.here hx rfl (hb hby d_jdk_33_method_47_code_49) ?_
    show Steps p.tables e below (s₁.setTop (mkF m 51 #[.val (.int p1), .val (.int (31 : Int32))] [(.int (16 : Int32)), (.int p1)])) _
    refine XS.icmpNo X0.here hx rfl (hb hby d_jdk_33_method_47_code_51) rfl (flt hc51).1 ?_
    show Steps p.tables e below (s₁.setTop (mkF m 54 #[.val (.int p1), .val (.int (31 : Int32))] [])) _
    refine XS.iinc X0.here hx rfl (hb hby d_jdk_33_method_47_code_54) rfl (l' := #[.val (.int p1), .val (.int ((31 : Int32) + (-4 : Int32)))]) rfl ?_
    show Steps p.tables e below (s₁.setTop (mkF m 57 #[.val (.int p1), .val (.int ((31 : Int32) + (-4 : Int32)))] [])) _
    refine XS.iloadN X0.here hx rfl (hb hby d_jdk_33_method_47_code_57) rfl ?_
    show Steps p.tables e below (s₁.setTop (mkF m 58 #[.val (.int p1), .val (.int ((31 : Int32) + (-4 : Int32)))] [(.int p1)])) _
    refine XS.iconst X0.here hx rfl (hb hby d_jdk_33_method_47_code_58) ?_
    show Steps p.tables e below (s₁.setTop (mkF m 59 #[.val (.int p1), .val (.int ((31 : Int32) + (-4 : Int32)))] [(.int (4 : Int32)), (.int p1)])) _
    refine XS.iushr X0.here hx rfl (hb hby d_jdk_33_method_47_code_59) rfl ?_
    show Steps p.tables e below (s₁.setTop (mkF m 60 #[.val (.int p1), .val (.int ((31 : Int32) + (-4 : Int32)))] [(.int (own_sh p1 (4 : Int32)))])) _
    refine XS.istoreN X0.here hx rfl (hb hby d_jdk_33_method_47_code_60) rfl (l' := #[.val (.int (own_sh p1 (4 : Int32))), .val (.int ((31 : Int32) + (-4 : Int32)))]) rfl ?_
    show Steps p.tables e below (s₁.setTop (mkF m 61 #[.val (.int (own_sh p1 (4 : Int32))), .val (.int ((31 : Int32) + (-4 : Int32)))] [])) _
    refine XS.iloadN X0.here hx rfl (hb hby d_jdk_33_method_47_code_61) rfl ?_
    show Steps p.tables e below (s₁.setTop (mkF m 62 #[.val (.int (own_sh p1 (4 : Int32))), .val (.int ((31 : Int32) + (-4 : Int32)))] [(.int (own_sh p1 (4 : Int32)))])) _
    refine XS.iconst X0.here hx rfl (hb hby d_jdk_33_method_47_code_62) ?_
    show Steps p.tables e below (s₁.setTop (mkF m 63 #[.val (.int (own_sh p1 (4 : Int32))), .val (.int ((31 : Int32) + (-4 : Int32)))] [(.int (4 : Int32)), (.int (own_sh p1 (4 : Int32)))])) _
    refine XS.icmpYes X0.here hx rfl (pc0 := 63) (pc' := 73) rfl (hb hby d_jdk_33_method_47_code_63) rfl (tlt hc63).1 (by decide) (by decide) ?_
    show Steps p.tables e below (s₁.setTop (mkF m 73 #[.val (.int (own_sh p1 (4 : Int32))), .val (.int ((31 : Int32) + (-4 : Int32)))] [])) _
    refine XS.iloadN X0.here hx rfl (hb hby d_jdk_33_method_47_code_73) rfl ?_
    show Steps p.tables e below (s₁.setTop (mkF m 74 #[.val (.int (own_sh p1 (4 : Int32))), .val (.int ((31 : Int32) + (-4 : Int32)))] [(.int ((31 : Int32) + (-4 : Int32)))])) _
    refine XS.iloadN X0.here hx rfl (hb hby d_jdk_33_method_47_code_74) rfl ?_
    show Steps p.tables e below (s₁.setTop (mkF m 75 #[.val (.int (own_sh p1 (4 : Int32))), .val (.int ((31 : Int32) + (-4 : Int32)))] [(.int (own_sh p1 (4 : Int32))), (.int ((31 : Int32) + (-4 : Int32)))])) _
    refine XS.iconst X0.here hx rfl (hb hby d_jdk_33_method_47_code_75) ?_
    show Steps p.tables e below (s₁.setTop (mkF m 76 #[.val (.int (own_sh p1 (4 : Int32))), .val (.int ((31 : Int32) + (-4 : Int32)))] [(.int (1 : Int32)), (.int (own_sh p1 (4 : Int32))), (.int ((31 : Int32) + (-4 : Int32)))])) _
    refine XS.iushr X0.here hx rfl (hb hby d_jdk_33_method_47_code_76) rfl ?_
    show Steps p.tables e below (s₁.setTop (mkF m 77 #[.val (.int (own_sh p1 (4 : Int32))), .val (.int ((31 : Int32) + (-4 : Int32)))] [(.int (own_sh (own_sh p1 (4 : Int32)) (1 : Int32))), (.int ((31 : Int32) + (-4 : Int32)))])) _
    refine XS.isub X0.here hx rfl (hb hby d_jdk_33_method_47_code_77) rfl ?_
    show Steps p.tables e below (s₁.setTop (mkF m 78 #[.val (.int (own_sh p1 (4 : Int32))), .val (.int ((31 : Int32) + (-4 : Int32)))] [(.int (((31 : Int32) + (-4 : Int32)) - (own_sh (own_sh p1 (4 : Int32)) (1 : Int32))))])) _
    exact retI X0 hx Bd.returns (hb hby d_jdk_33_method_47_code_78) hr
  · show Q_rmZ Z p1 h0 n0 _ s₁.heap _
    rw [e0]
    exact ⟨by rw [hres], N0, rfl⟩
set_option maxRecDepth 65536 in
set_option maxHeartbeats 40000000 in
theorem rmZ_tttff (l : Launch) (Z : State) (a0 : Array Value) (hw : ∀ d ∈ tables_1, d.before a0 Z = true) (ws : List Jvm.Cond) (p1 : Int32) (h0 : Heap) (n0 : Nat) (Z0 : n0 ≤ h0.size) (hc1 : (0 : Int32) < p1) (hc22 : p1 < (65536 : Int32)) (hc37 : p1 < (256 : Int32)) (hc51 : ¬ (p1 < (16 : Int32))) (hc63 : ¬ ((own_sh p1 (4 : Int32)) < (4 : Int32))) (hres : (own_nlz32 p1) = ((((31 : Int32) + (-4 : Int32)) + (-2 : Int32)) - (own_sh (own_sh (own_sh p1 (4 : Int32)) (2 : Int32)) (1 : Int32)))) :
    MetFree l (⟨"java/lang/Integer", "numberOfLeadingZeros", "(I)I"⟩ : MethodName) (head1 (Jvm.Cond.code (⟨"java/lang/Integer", "numberOfLeadingZeros", "(I)I"⟩ : MethodName) jdk_33_method_47_code 2 (some .int) :: ws) ({ frames := 0, cells := 0, slots := 0, locals := 0 } : Room)) (fun a U => a = #[(.int p1)] ∧ Z.Warmed39 U.vm ∧ U.heap = h0) (fun _ _ _ _ _ => True) (fun _ U o U' => ∃ v L, o = .returned v ∧ Q_rmZ Z p1 h0 n0 v U'.heap L ∧ FrameEnd U o U' L ({ frames := 0, cells := 0, slots := 0, locals := 0 } : Room).cells ({ frames := 0, cells := 0, slots := 0, locals := 0 } : Room).slots) := by
  refine MetFree.of_bodySF (plainFor_of_name pn_2) hisR ?_
  intro p e s m args below meth c s₁ Bd hml0 hP hK
  obtain ⟨rfl, hZ, hh⟩ := hP
  have hx := Bd.exec
  have hby := Bd.bytes
  have hml : c.maxLocals = 2 := hml0
  have hown : s.vm.findClass "java/lang/Integer" = some m.cls := findClass_of_methodNamed Bd.named
  have hnm := (name_of_methodNamed Bd.named Bd.method).1
  have X0 : Stand p l e ({ frames := 0, cells := 0, slots := 0, locals := 0 } : Room) s m #[(.int p1)] below meth c s₁ [] 0 0 := Stand.of_body Bd
  have e0 : s₁.heap = h0 := by rw [← hh, Bd.state]; rfl
  have N0 := Fr.nil n0
  have pre0 : ∀ t, Steps p.tables e below (s₁.setTop (mkF m 0 #[.val (.int p1), .unset] [])) t → Steps p.tables e below (s₁.setTop (entryFrame m #[(.int p1)] 2)) t := fun t k => castTop (ef_2 m p1) k
  obtain ⟨fs, hr, hrun, hended, hW, hsame⟩ := X0.leave (v := some (.int ((((31 : Int32) + (-4 : Int32)) + (-2 : Int32)) - (own_sh (own_sh (own_sh p1 (4 : Int32)) (2 : Int32)) (1 : Int32))))) (fun h => by rw [Bd.returns] at h; cases h)
  refine ⟨_, _, pre0 _ ?_, hrun, hended, _, _, rfl, ?_, ⟨_, rfl⟩, hW, hsame.mono (by decide) (by decide)⟩
  · show Steps p.tables e below (s₁.setTop (mkF m 0 #[.val (.int p1), .unset] [])) _
    refine XS.iloadN X0.here hx rfl (hb hby d_jdk_33_method_47_code_0) rfl ?_
    show Steps p.tables e below (s₁.setTop (mkF m 1 #[.val (.int p1), .unset] [(.int p1)])) _
    refine XS.ifYes X0.here hx rfl (pc0 := 1) (pc' := 15) rfl (hb hby d_jdk_33_method_47_code_1) rfl ((if0 _ _).trans (tlt hc1).2.2.1) (by decide) (by decide) ?_
    show Steps p.tables e below (s₁.setTop (mkF m 15 #[.val (.int p1), .unset] [])) _
    refine XS.bipush X0.here hx rfl (hb hby d_jdk_33_method_47_code_15) ?_
    show Steps p.tables e below (s₁.setTop (mkF m 17 #[.val (.int p1), .unset] [(.int (31 : Int32))])) _
    refine XS.istoreN X0.here hx rfl (hb hby d_jdk_33_method_47_code_17) rfl (l' := #[.val (.int p1), .val (.int (31 : Int32))]) rfl ?_
    show Steps p.tables e below (s₁.setTop (mkF m 18 #[.val (.int p1), .val (.int (31 : Int32))] [])) _
    refine XS.iloadN X0.here hx rfl (hb hby d_jdk_33_method_47_code_18) rfl ?_
    show Steps p.tables e below (s₁.setTop (mkF m 19 #[.val (.int p1), .val (.int (31 : Int32))] [(.int p1)])) _
    refine X0.ldcWI hx hown (mvT hZ (hw _ (List.mem_of_getElem? (i := 34) rfl))) (g := (mkF m 19 #[.val (.int p1), .val (.int (31 : Int32))] [(.int p1)])) rfl (hb hby d_jdk_33_method_47_code_19) ?_
    show Steps p.tables e below (s₁.setTop (mkF m 22 #[.val (.int p1), .val (.int (31 : Int32))] [(.int (65536 : Int32)), (.int p1)])) _
    refine XS.icmpYes X0.here hx rfl (pc0 := 22) (pc' := 33) rfl (hb hby d_jdk_33_method_47_code_22) rfl (tlt hc22).1 (by decide) (by decide) ?_
    show Steps p.tables e below (s₁.setTop (mkF m 33 #[.val (.int p1), .val (.int (31 : Int32))] [])) _
    refine XS.iloadN X0.here hx rfl (hb hby d_jdk_33_method_47_code_33) rfl ?_
    show Steps p.tables e below (s₁.setTop (mkF m 34 #[.val (.int p1), .val (.int (31 : Int32))] [(.int p1)])) _
    refine XS.sipush X0.here hx rfl (hb hby d_jdk_33_method_47_code_34) ?_
    show Steps p.tables e below (s₁.setTop (mkF m 37 #[.val (.int p1), .val (.int (31 : Int32))] [(.int (256 : Int32)), (.int p1)])) _
    refine XS.icmpYes X0.here hx rfl (pc0 := 37) (pc' := 48) rfl (hb hby d_jdk_33_method_47_code_37) rfl (tlt hc37).1 (by decide) (by decide) ?_
    show Steps p.tables e below (s₁.setTop (mkF m 48 #[.val (.int p1), .val (.int (31 : Int32))] [])) _
    refine XS.iloadN X0.here hx rfl (hb hby d_jdk_33_method_47_code_48) rfl ?_
    show Steps p.tables e below (s₁.setTop (mkF m 49 #[.val (.int p1), .val (.int (31 : Int32))] [(.int p1)])) _
    refine XS.bipush X0.here hx rfl (hb hby d_jdk_33_method_47_code_49) ?_
    show Steps p.tables e below (s₁.setTop (mkF m 51 #[.val (.int p1), .val (.int (31 : Int32))] [(.int (16 : Int32)), (.int p1)])) _
    refine XS.icmpNo X0.here hx rfl (hb hby d_jdk_33_method_47_code_51) rfl (flt hc51).1 ?_
    show Steps p.tables e below (s₁.setTop (mkF m 54 #[.val (.int p1), .val (.int (31 : Int32))] [])) _
    refine XS.iinc X0.here hx rfl (hb hby d_jdk_33_method_47_code_54) rfl (l' := #[.val (.int p1), .val (.int ((31 : Int32) + (-4 : Int32)))]) rfl ?_
    show Steps p.tables e below (s₁.setTop (mkF m 57 #[.val (.int p1), .val (.int ((31 : Int32) + (-4 : Int32)))] [])) _
    refine XS.iloadN X0.here hx rfl (hb hby d_jdk_33_method_47_code_57) rfl ?_
    show Steps p.tables e below (s₁.setTop (mkF m 58 #[.val (.int p1), .val (.int ((31 : Int32) + (-4 : Int32)))] [(.int p1)])) _
    refine XS.iconst X0.here hx rfl (hb hby d_jdk_33_method_47_code_58) ?_
    show Steps p.tables e below (s₁.setTop (mkF m 59 #[.val (.int p1), .val (.int ((31 : Int32) + (-4 : Int32)))] [(.int (4 : Int32)), (.int p1)])) _
    refine XS.iushr X0.here hx rfl (hb hby d_jdk_33_method_47_code_59) rfl ?_
    show Steps p.tables e below (s₁.setTop (mkF m 60 #[.val (.int p1), .val (.int ((31 : Int32) + (-4 : Int32)))] [(.int (own_sh p1 (4 : Int32)))])) _
    refine XS.istoreN X0.here hx rfl (hb hby d_jdk_33_method_47_code_60) rfl (l' := #[.val (.int (own_sh p1 (4 : Int32))), .val (.int ((31 : Int32) + (-4 : Int32)))]) rfl ?_
    show Steps p.tables e below (s₁.setTop (mkF m 61 #[.val (.int (own_sh p1 (4 : Int32))), .val (.int ((31 : Int32) + (-4 : Int32)))] [])) _
    refine XS.iloadN X0.here hx rfl (hb hby d_jdk_33_method_47_code_61) rfl ?_
    show Steps p.tables e below (s₁.setTop (mkF m 62 #[.val (.int (own_sh p1 (4 : Int32))), .val (.int ((31 : Int32) + (-4 : Int32)))] [(.int (own_sh p1 (4 : Int32)))])) _
    refine XS.iconst X0.here hx rfl (hb hby d_jdk_33_method_47_code_62) ?_
    show Steps p.tables e below (s₁.setTop (mkF m 63 #[.val (.int (own_sh p1 (4 : Int32))), .val (.int ((31 : Int32) + (-4 : Int32)))] [(.int (4 : Int32)), (.int (own_sh p1 (4 : Int32)))])) _
    refine XS.icmpNo X0.here hx rfl (hb hby d_jdk_33_method_47_code_63) rfl (flt hc63).1 ?_
    show Steps p.tables e below (s₁.setTop (mkF m 66 #[.val (.int (own_sh p1 (4 : Int32))), .val (.int ((31 : Int32) + (-4 : Int32)))] [])) _
    refine XS.iinc X0.here hx rfl (hb hby d_jdk_33_method_47_code_66) rfl (l' := #[.val (.int (own_sh p1 (4 : Int32))), .val (.int (((31 : Int32) + (-4 : Int32)) + (-2 : Int32)))]) rfl ?_
    show Steps p.tables e below (s₁.setTop (mkF m 69 #[.val (.int (own_sh p1 (4 : Int32))), .val (.int (((31 : Int32) + (-4 : Int32)) + (-2 : Int32)))] [])) _
    refine XS.iloadN X0.here hx rfl (hb hby d_jdk_33_method_47_code_69) rfl ?_
    show Steps p.tables e below (s₁.setTop (mkF m 70 #[.val (.int (own_sh p1 (4 : Int32))), .val (.int (((31 : Int32) + (-4 : Int32)) + (-2 : Int32)))] [(.int (own_sh p1 (4 : Int32)))])) _
    refine XS.iconst X0.here hx rfl (hb hby d_jdk_33_method_47_code_70) ?_
    show Steps p.tables e below (s₁.setTop (mkF m 71 #[.val (.int (own_sh p1 (4 : Int32))), .val (.int (((31 : Int32) + (-4 : Int32)) + (-2 : Int32)))] [(.int (2 : Int32)), (.int (own_sh p1 (4 : Int32)))])) _
    refine XS.iushr X0.here hx rfl (hb hby d_jdk_33_method_47_code_71) rfl ?_
    show Steps p.tables e below (s₁.setTop (mkF m 72 #[.val (.int (own_sh p1 (4 : Int32))), .val (.int (((31 : Int32) + (-4 : Int32)) + (-2 : Int32)))] [(.int (own_sh (own_sh p1 (4 : Int32)) (2 : Int32)))])) _
    refine XS.istoreN X0.here hx rfl (hb hby d_jdk_33_method_47_code_72) rfl (l' := #[.val (.int (own_sh (own_sh p1 (4 : Int32)) (2 : Int32))), .val (.int (((31 : Int32) + (-4 : Int32)) + (-2 : Int32)))]) rfl ?_
    show Steps p.tables e below (s₁.setTop (mkF m 73 #[.val (.int (own_sh (own_sh p1 (4 : Int32)) (2 : Int32))), .val (.int (((31 : Int32) + (-4 : Int32)) + (-2 : Int32)))] [])) _
    refine XS.iloadN X0.here hx rfl (hb hby d_jdk_33_method_47_code_73) rfl ?_
    show Steps p.tables e below (s₁.setTop (mkF m 74 #[.val (.int (own_sh (own_sh p1 (4 : Int32)) (2 : Int32))), .val (.int (((31 : Int32) + (-4 : Int32)) + (-2 : Int32)))] [(.int (((31 : Int32) + (-4 : Int32)) + (-2 : Int32)))])) _
    refine XS.iloadN X0.here hx rfl (hb hby d_jdk_33_method_47_code_74) rfl ?_
    show Steps p.tables e below (s₁.setTop (mkF m 75 #[.val (.int (own_sh (own_sh p1 (4 : Int32)) (2 : Int32))), .val (.int (((31 : Int32) + (-4 : Int32)) + (-2 : Int32)))] [(.int (own_sh (own_sh p1 (4 : Int32)) (2 : Int32))), (.int (((31 : Int32) + (-4 : Int32)) + (-2 : Int32)))])) _
    refine XS.iconst X0.here hx rfl (hb hby d_jdk_33_method_47_code_75) ?_
    show Steps p.tables e below (s₁.setTop (mkF m 76 #[.val (.int (own_sh (own_sh p1 (4 : Int32)) (2 : Int32))), .val (.int (((31 : Int32) + (-4 : Int32)) + (-2 : Int32)))] [(.int (1 : Int32)), (.int (own_sh (own_sh p1 (4 : Int32)) (2 : Int32))), (.int (((31 : Int32) + (-4 : Int32)) + (-2 : Int32)))])) _
    refine XS.iushr X0.here hx rfl (hb hby d_jdk_33_method_47_code_76) rfl ?_
    show Steps p.tables e below (s₁.setTop (mkF m 77 #[.val (.int (own_sh (own_sh p1 (4 : Int32)) (2 : Int32))), .val (.int (((31 : Int32) + (-4 : Int32)) + (-2 : Int32)))] [(.int (own_sh (own_sh (own_sh p1 (4 : Int32)) (2 : Int32)) (1 : Int32))), (.int (((31 : Int32) + (-4 : Int32)) + (-2 : Int32)))])) _
    refine XS.isub X0.here hx rfl (hb hby d_jdk_33_method_47_code_77) rfl ?_
    show Steps p.tables e below (s₁.setTop (mkF m 78 #[.val (.int (own_sh (own_sh p1 (4 : Int32)) (2 : Int32))), .val (.int (((31 : Int32) + (-4 : Int32)) + (-2 : Int32)))] [(.int ((((31 : Int32) + (-4 : Int32)) + (-2 : Int32)) - (own_sh (own_sh (own_sh p1 (4 : Int32)) (2 : Int32)) (1 : Int32))))])) _
    exact retI X0 hx Bd.returns (hb hby d_jdk_33_method_47_code_78) hr
  · show Q_rmZ Z p1 h0 n0 _ s₁.heap _
    rw [e0]
    exact ⟨by rw [hres], N0, rfl⟩
set_option maxRecDepth 65536 in
set_option maxHeartbeats 40000000 in
theorem rmZ_ttftt (l : Launch) (Z : State) (a0 : Array Value) (hw : ∀ d ∈ tables_1, d.before a0 Z = true) (ws : List Jvm.Cond) (p1 : Int32) (h0 : Heap) (n0 : Nat) (Z0 : n0 ≤ h0.size) (hc1 : (0 : Int32) < p1) (hc22 : p1 < (65536 : Int32)) (hc37 : ¬ (p1 < (256 : Int32))) (hc51 : (own_sh p1 (8 : Int32)) < (16 : Int32)) (hc63 : (own_sh p1 (8 : Int32)) < (4 : Int32)) (hres : (own_nlz32 p1) = (((31 : Int32) + (-8 : Int32)) - (own_sh (own_sh p1 (8 : Int32)) (1 : Int32)))) :
    MetFree l (⟨"java/lang/Integer", "numberOfLeadingZeros", "(I)I"⟩ : MethodName) (head1 (Jvm.Cond.code (⟨"java/lang/Integer", "numberOfLeadingZeros", "(I)I"⟩ : MethodName) jdk_33_method_47_code 2 (some .int) :: ws) ({ frames := 0, cells := 0, slots := 0, locals := 0 } : Room)) (fun a U => a = #[(.int p1)] ∧ Z.Warmed39 U.vm ∧ U.heap = h0) (fun _ _ _ _ _ => True) (fun _ U o U' => ∃ v L, o = .returned v ∧ Q_rmZ Z p1 h0 n0 v U'.heap L ∧ FrameEnd U o U' L ({ frames := 0, cells := 0, slots := 0, locals := 0 } : Room).cells ({ frames := 0, cells := 0, slots := 0, locals := 0 } : Room).slots) := by
  refine MetFree.of_bodySF (plainFor_of_name pn_2) hisR ?_
  intro p e s m args below meth c s₁ Bd hml0 hP hK
  obtain ⟨rfl, hZ, hh⟩ := hP
  have hx := Bd.exec
  have hby := Bd.bytes
  have hml : c.maxLocals = 2 := hml0
  have hown : s.vm.findClass "java/lang/Integer" = some m.cls := findClass_of_methodNamed Bd.named
  have hnm := (name_of_methodNamed Bd.named Bd.method).1
  have X0 : Stand p l e ({ frames := 0, cells := 0, slots := 0, locals := 0 } : Room) s m #[(.int p1)] below meth c s₁ [] 0 0 := Stand.of_body Bd
  have e0 : s₁.heap = h0 := by rw [← hh, Bd.state]; rfl
  have N0 := Fr.nil n0
  have pre0 : ∀ t, Steps p.tables e below (s₁.setTop (mkF m 0 #[.val (.int p1), .unset] [])) t → Steps p.tables e below (s₁.setTop (entryFrame m #[(.int p1)] 2)) t := fun t k => castTop (ef_2 m p1) k
  obtain ⟨fs, hr, hrun, hended, hW, hsame⟩ := X0.leave (v := some (.int (((31 : Int32) + (-8 : Int32)) - (own_sh (own_sh p1 (8 : Int32)) (1 : Int32))))) (fun h => by rw [Bd.returns] at h; cases h)
  refine ⟨_, _, pre0 _ ?_, hrun, hended, _, _, rfl, ?_, ⟨_, rfl⟩, hW, hsame.mono (by decide) (by decide)⟩
  · show Steps p.tables e below (s₁.setTop (mkF m 0 #[.val (.int p1), .unset] [])) _
    refine XS.iloadN X0.here hx rfl (hb hby d_jdk_33_method_47_code_0) rfl ?_
    show Steps p.tables e below (s₁.setTop (mkF m 1 #[.val (.int p1), .unset] [(.int p1)])) _
    refine XS.ifYes X0.here hx rfl (pc0 := 1) (pc' := 15) rfl (hb hby d_jdk_33_method_47_code_1) rfl ((if0 _ _).trans (tlt hc1).2.2.1) (by decide) (by decide) ?_
    show Steps p.tables e below (s₁.setTop (mkF m 15 #[.val (.int p1), .unset] [])) _
    refine XS.bipush X0.here hx rfl (hb hby d_jdk_33_method_47_code_15) ?_
    show Steps p.tables e below (s₁.setTop (mkF m 17 #[.val (.int p1), .unset] [(.int (31 : Int32))])) _
    refine XS.istoreN X0.here hx rfl (hb hby d_jdk_33_method_47_code_17) rfl (l' := #[.val (.int p1), .val (.int (31 : Int32))]) rfl ?_
    show Steps p.tables e below (s₁.setTop (mkF m 18 #[.val (.int p1), .val (.int (31 : Int32))] [])) _
    refine XS.iloadN X0.here hx rfl (hb hby d_jdk_33_method_47_code_18) rfl ?_
    show Steps p.tables e below (s₁.setTop (mkF m 19 #[.val (.int p1), .val (.int (31 : Int32))] [(.int p1)])) _
    refine X0.ldcWI hx hown (mvT hZ (hw _ (List.mem_of_getElem? (i := 34) rfl))) (g := (mkF m 19 #[.val (.int p1), .val (.int (31 : Int32))] [(.int p1)])) rfl (hb hby d_jdk_33_method_47_code_19) ?_
    show Steps p.tables e below (s₁.setTop (mkF m 22 #[.val (.int p1), .val (.int (31 : Int32))] [(.int (65536 : Int32)), (.int p1)])) _
    refine XS.icmpYes X0.here hx rfl (pc0 := 22) (pc' := 33) rfl (hb hby d_jdk_33_method_47_code_22) rfl (tlt hc22).1 (by decide) (by decide) ?_
    show Steps p.tables e below (s₁.setTop (mkF m 33 #[.val (.int p1), .val (.int (31 : Int32))] [])) _
    refine XS.iloadN X0.here hx rfl (hb hby d_jdk_33_method_47_code_33) rfl ?_
    show Steps p.tables e below (s₁.setTop (mkF m 34 #[.val (.int p1), .val (.int (31 : Int32))] [(.int p1)])) _
    refine XS.sipush X0.here hx rfl (hb hby d_jdk_33_method_47_code_34) ?_
    show Steps p.tables e below (s₁.setTop (mkF m 37 #[.val (.int p1), .val (.int (31 : Int32))] [(.int (256 : Int32)), (.int p1)])) _
    refine XS.icmpNo X0.here hx rfl (hb hby d_jdk_33_method_47_code_37) rfl (flt hc37).1 ?_
    show Steps p.tables e below (s₁.setTop (mkF m 40 #[.val (.int p1), .val (.int (31 : Int32))] [])) _
    refine XS.iinc X0.here hx rfl (hb hby d_jdk_33_method_47_code_40) rfl (l' := #[.val (.int p1), .val (.int ((31 : Int32) + (-8 : Int32)))]) rfl ?_
    show Steps p.tables e below (s₁.setTop (mkF m 43 #[.val (.int p1), .val (.int ((31 : Int32) + (-8 : Int32)))] [])) _
    refine XS.iloadN X0.here hx rfl (hb hby d_jdk_33_method_47_code_43) rfl ?_
    show Steps p.tables e below (s₁.setTop (mkF m 44 #[.val (.int p1), .val (.int ((31 : Int32) + (-8 : Int32)))] [(.int p1)])) _
    refine XS.bipush X0.here hx rfl (hb hby d_jdk_33_method_47_code_44) ?_
    show Steps p.tables e below (s₁.setTop (mkF m 46 #[.val (.int p1), .val (.int ((31 : Int32) + (-8 : Int32)))] [(.int (8 : Int32)), (.int p1)])) _
    refine XS.iushr X0.here hx rfl (hb hby d_jdk_33_method_47_code_46) rfl ?_
    show Steps p.tables e below (s₁.setTop (mkF m 47 #[.val (.int p1), .val (.int ((31 : Int32) + (-8 : Int32)))] [(.int (own_sh p1 (8 : Int32)))])) _
    refine XS.istoreN X0.here hx rfl (hb hby d_jdk_33_method_47_code_47) rfl (l' := #[.val (.int (own_sh p1 (8 : Int32))), .val (.int ((31 : Int32) + (-8 : Int32)))]) rfl ?_
    show Steps p.tables e below (s₁.setTop (mkF m 48 #[.val (.int (own_sh p1 (8 : Int32))), .val (.int ((31 : Int32) + (-8 : Int32)))] [])) _
    refine XS.iloadN X0.here hx rfl (hb hby d_jdk_33_method_47_code_48) rfl ?_
    show Steps p.tables e below (s₁.setTop (mkF m 49 #[.val (.int (own_sh p1 (8 : Int32))), .val (.int ((31 : Int32) + (-8 : Int32)))] [(.int (own_sh p1 (8 : Int32)))])) _
    refine XS.bipush X0.here hx rfl (hb hby d_jdk_33_method_47_code_49) ?_
    show Steps p.tables e below (s₁.setTop (mkF m 51 #[.val (.int (own_sh p1 (8 : Int32))), .val (.int ((31 : Int32) + (-8 : Int32)))] [(.int (16 : Int32)), (.int (own_sh p1 (8 : Int32)))])) _
    refine XS.icmpYes X0.here hx rfl (pc0 := 51) (pc' := 61) rfl (hb hby d_jdk_33_method_47_code_51) rfl (tlt hc51).1 (by decide) (by decide) ?_
    show Steps p.tables e below (s₁.setTop (mkF m 61 #[.val (.int (own_sh p1 (8 : Int32))), .val (.int ((31 : Int32) + (-8 : Int32)))] [])) _
    refine XS.iloadN X0.here hx rfl (hb hby d_jdk_33_method_47_code_61) rfl ?_
    show Steps p.tables e below (s₁.setTop (mkF m 62 #[.val (.int (own_sh p1 (8 : Int32))), .val (.int ((31 : Int32) + (-8 : Int32)))] [(.int (own_sh p1 (8 : Int32)))])) _
    refine XS.iconst X0.here hx rfl (hb hby d_jdk_33_method_47_code_62) ?_
    show Steps p.tables e below (s₁.setTop (mkF m 63 #[.val (.int (own_sh p1 (8 : Int32))), .val (.int ((31 : Int32) + (-8 : Int32)))] [(.int (4 : Int32)), (.int (own_sh p1 (8 : Int32)))])) _
    refine XS.icmpYes X0.here hx rfl (pc0 := 63) (pc' := 73) rfl (hb hby d_jdk_33_method_47_code_63) rfl (tlt hc63).1 (by decide) (by decide) ?_
    show Steps p.tables e below (s₁.setTop (mkF m 73 #[.val (.int (own_sh p1 (8 : Int32))), .val (.int ((31 : Int32) + (-8 : Int32)))] [])) _
    refine XS.iloadN X0.here hx rfl (hb hby d_jdk_33_method_47_code_73) rfl ?_
    show Steps p.tables e below (s₁.setTop (mkF m 74 #[.val (.int (own_sh p1 (8 : Int32))), .val (.int ((31 : Int32) + (-8 : Int32)))] [(.int ((31 : Int32) + (-8 : Int32)))])) _
    refine XS.iloadN X0.here hx rfl (hb hby d_jdk_33_method_47_code_74) rfl ?_
    show Steps p.tables e below (s₁.setTop (mkF m 75 #[.val (.int (own_sh p1 (8 : Int32))), .val (.int ((31 : Int32) + (-8 : Int32)))] [(.int (own_sh p1 (8 : Int32))), (.int ((31 : Int32) + (-8 : Int32)))])) _
    refine XS.iconst X0.here hx rfl (hb hby d_jdk_33_method_47_code_75) ?_
    show Steps p.tables e below (s₁.setTop (mkF m 76 #[.val (.int (own_sh p1 (8 : Int32))), .val (.int ((31 : Int32) + (-8 : Int32)))] [(.int (1 : Int32)), (.int (own_sh p1 (8 : Int32))), (.int ((31 : Int32) + (-8 : Int32)))])) _
    refine XS.iushr X0.here hx rfl (hb hby d_jdk_33_method_47_code_76) rfl ?_
    show Steps p.tables e below (s₁.setTop (mkF m 77 #[.val (.int (own_sh p1 (8 : Int32))), .val (.int ((31 : Int32) + (-8 : Int32)))] [(.int (own_sh (own_sh p1 (8 : Int32)) (1 : Int32))), (.int ((31 : Int32) + (-8 : Int32)))])) _
    refine XS.isub X0.here hx rfl (hb hby d_jdk_33_method_47_code_77) rfl ?_
    show Steps p.tables e below (s₁.setTop (mkF m 78 #[.val (.int (own_sh p1 (8 : Int32))), .val (.int ((31 : Int32) + (-8 : Int32)))] [(.int (((31 : Int32) + (-8 : Int32)) - (own_sh (own_sh p1 (8 : Int32)) (1 : Int32))))])) _
    exact retI X0 hx Bd.returns (hb hby d_jdk_33_method_47_code_78) hr
  · show Q_rmZ Z p1 h0 n0 _ s₁.heap _
    rw [e0]
    exact ⟨by rw [hres], N0, rfl⟩
set_option maxRecDepth 65536 in
set_option maxHeartbeats 40000000 in
theorem rmZ_ttftf (l : Launch) (Z : State) (a0 : Array Value) (hw : ∀ d ∈ tables_1, d.before a0 Z = true) (ws : List Jvm.Cond) (p1 : Int32) (h0 : Heap) (n0 : Nat) (Z0 : n0 ≤ h0.size) (hc1 : (0 : Int32) < p1) (hc22 : p1 < (65536 : Int32)) (hc37 : ¬ (p1 < (256 : Int32))) (hc51 : (own_sh p1 (8 : Int32)) < (16 : Int32)) (hc63 : ¬ ((own_sh p1 (8 : Int32)) < (4 : Int32))) (hres : (own_nlz32 p1) = ((((31 : Int32) + (-8 : Int32)) + (-2 : Int32)) - (own_sh (own_sh (own_sh p1 (8 : Int32)) (2 : Int32)) (1 : Int32)))) :
    MetFree l (⟨"java/lang/Integer", "numberOfLeadingZeros", "(I)I"⟩ : MethodName) (head1 (Jvm.Cond.code (⟨"java/lang/Integer", "numberOfLeadingZeros", "(I)I"⟩ : MethodName) jdk_33_method_47_code 2 (some .int) :: ws) ({ frames := 0, cells := 0, slots := 0, locals := 0 } : Room)) (fun a U => a = #[(.int p1)] ∧ Z.Warmed39 U.vm ∧ U.heap = h0) (fun _ _ _ _ _ => True) (fun _ U o U' => ∃ v L, o = .returned v ∧ Q_rmZ Z p1 h0 n0 v U'.heap L ∧ FrameEnd U o U' L ({ frames := 0, cells := 0, slots := 0, locals := 0 } : Room).cells ({ frames := 0, cells := 0, slots := 0, locals := 0 } : Room).slots) := by
  refine MetFree.of_bodySF (plainFor_of_name pn_2) hisR ?_
  intro p e s m args below meth c s₁ Bd hml0 hP hK
  obtain ⟨rfl, hZ, hh⟩ := hP
  have hx := Bd.exec
  have hby := Bd.bytes
  have hml : c.maxLocals = 2 := hml0
  have hown : s.vm.findClass "java/lang/Integer" = some m.cls := findClass_of_methodNamed Bd.named
  have hnm := (name_of_methodNamed Bd.named Bd.method).1
  have X0 : Stand p l e ({ frames := 0, cells := 0, slots := 0, locals := 0 } : Room) s m #[(.int p1)] below meth c s₁ [] 0 0 := Stand.of_body Bd
  have e0 : s₁.heap = h0 := by rw [← hh, Bd.state]; rfl
  have N0 := Fr.nil n0
  have pre0 : ∀ t, Steps p.tables e below (s₁.setTop (mkF m 0 #[.val (.int p1), .unset] [])) t → Steps p.tables e below (s₁.setTop (entryFrame m #[(.int p1)] 2)) t := fun t k => castTop (ef_2 m p1) k
  obtain ⟨fs, hr, hrun, hended, hW, hsame⟩ := X0.leave (v := some (.int ((((31 : Int32) + (-8 : Int32)) + (-2 : Int32)) - (own_sh (own_sh (own_sh p1 (8 : Int32)) (2 : Int32)) (1 : Int32))))) (fun h => by rw [Bd.returns] at h; cases h)
  refine ⟨_, _, pre0 _ ?_, hrun, hended, _, _, rfl, ?_, ⟨_, rfl⟩, hW, hsame.mono (by decide) (by decide)⟩
  · show Steps p.tables e below (s₁.setTop (mkF m 0 #[.val (.int p1), .unset] [])) _
    refine XS.iloadN X0.here hx rfl (hb hby d_jdk_33_method_47_code_0) rfl ?_
    show Steps p.tables e below (s₁.setTop (mkF m 1 #[.val (.int p1), .unset] [(.int p1)])) _
    refine XS.ifYes X0.here hx rfl (pc0 := 1) (pc' := 15) rfl (hb hby d_jdk_33_method_47_code_1) rfl ((if0 _ _).trans (tlt hc1).2.2.1) (by decide) (by decide) ?_
    show Steps p.tables e below (s₁.setTop (mkF m 15 #[.val (.int p1), .unset] [])) _
    refine XS.bipush X0.here hx rfl (hb hby d_jdk_33_method_47_code_15) ?_
    show Steps p.tables e below (s₁.setTop (mkF m 17 #[.val (.int p1), .unset] [(.int (31 : Int32))])) _
    refine XS.istoreN X0.here hx rfl (hb hby d_jdk_33_method_47_code_17) rfl (l' := #[.val (.int p1), .val (.int (31 : Int32))]) rfl ?_
    show Steps p.tables e below (s₁.setTop (mkF m 18 #[.val (.int p1), .val (.int (31 : Int32))] [])) _
    refine XS.iloadN X0.here hx rfl (hb hby d_jdk_33_method_47_code_18) rfl ?_
    show Steps p.tables e below (s₁.setTop (mkF m 19 #[.val (.int p1), .val (.int (31 : Int32))] [(.int p1)])) _
    refine X0.ldcWI hx hown (mvT hZ (hw _ (List.mem_of_getElem? (i := 34) rfl))) (g := (mkF m 19 #[.val (.int p1), .val (.int (31 : Int32))] [(.int p1)])) rfl (hb hby d_jdk_33_method_47_code_19) ?_
    show Steps p.tables e below (s₁.setTop (mkF m 22 #[.val (.int p1), .val (.int (31 : Int32))] [(.int (65536 : Int32)), (.int p1)])) _
    refine XS.icmpYes X0.here hx rfl (pc0 := 22) (pc' := 33) rfl (hb hby d_jdk_33_method_47_code_22) rfl (tlt hc22).1 (by decide) (by decide) ?_
    show Steps p.tables e below (s₁.setTop (mkF m 33 #[.val (.int p1), .val (.int (31 : Int32))] [])) _
    refine XS.iloadN X0.here hx rfl (hb hby d_jdk_33_method_47_code_33) rfl ?_
    show Steps p.tables e below (s₁.setTop (mkF m 34 #[.val (.int p1), .val (.int (31 : Int32))] [(.int p1)])) _
    refine XS.sipush X0.here hx rfl (hb hby d_jdk_33_method_47_code_34) ?_
    show Steps p.tables e below (s₁.setTop (mkF m 37 #[.val (.int p1), .val (.int (31 : Int32))] [(.int (256 : Int32)), (.int p1)])) _
    refine XS.icmpNo X0.here hx rfl (hb hby d_jdk_33_method_47_code_37) rfl (flt hc37).1 ?_
    show Steps p.tables e below (s₁.setTop (mkF m 40 #[.val (.int p1), .val (.int (31 : Int32))] [])) _
    refine XS.iinc X0.here hx rfl (hb hby d_jdk_33_method_47_code_40) rfl (l' := #[.val (.int p1), .val (.int ((31 : Int32) + (-8 : Int32)))]) rfl ?_
    show Steps p.tables e below (s₁.setTop (mkF m 43 #[.val (.int p1), .val (.int ((31 : Int32) + (-8 : Int32)))] [])) _
    refine XS.iloadN X0.here hx rfl (hb hby d_jdk_33_method_47_code_43) rfl ?_
    show Steps p.tables e below (s₁.setTop (mkF m 44 #[.val (.int p1), .val (.int ((31 : Int32) + (-8 : Int32)))] [(.int p1)])) _
    refine XS.bipush X0.here hx rfl (hb hby d_jdk_33_method_47_code_44) ?_
    show Steps p.tables e below (s₁.setTop (mkF m 46 #[.val (.int p1), .val (.int ((31 : Int32) + (-8 : Int32)))] [(.int (8 : Int32)), (.int p1)])) _
    refine XS.iushr X0.here hx rfl (hb hby d_jdk_33_method_47_code_46) rfl ?_
    show Steps p.tables e below (s₁.setTop (mkF m 47 #[.val (.int p1), .val (.int ((31 : Int32) + (-8 : Int32)))] [(.int (own_sh p1 (8 : Int32)))])) _
    refine XS.istoreN X0.here hx rfl (hb hby d_jdk_33_method_47_code_47) rfl (l' := #[.val (.int (own_sh p1 (8 : Int32))), .val (.int ((31 : Int32) + (-8 : Int32)))]) rfl ?_
    show Steps p.tables e below (s₁.setTop (mkF m 48 #[.val (.int (own_sh p1 (8 : Int32))), .val (.int ((31 : Int32) + (-8 : Int32)))] [])) _
    refine XS.iloadN X0.here hx rfl (hb hby d_jdk_33_method_47_code_48) rfl ?_
    show Steps p.tables e below (s₁.setTop (mkF m 49 #[.val (.int (own_sh p1 (8 : Int32))), .val (.int ((31 : Int32) + (-8 : Int32)))] [(.int (own_sh p1 (8 : Int32)))])) _
    refine XS.bipush X0.here hx rfl (hb hby d_jdk_33_method_47_code_49) ?_
    show Steps p.tables e below (s₁.setTop (mkF m 51 #[.val (.int (own_sh p1 (8 : Int32))), .val (.int ((31 : Int32) + (-8 : Int32)))] [(.int (16 : Int32)), (.int (own_sh p1 (8 : Int32)))])) _
    refine XS.icmpYes X0.here hx rfl (pc0 := 51) (pc' := 61) rfl (hb hby d_jdk_33_method_47_code_51) rfl (tlt hc51).1 (by decide) (by decide) ?_
    show Steps p.tables e below (s₁.setTop (mkF m 61 #[.val (.int (own_sh p1 (8 : Int32))), .val (.int ((31 : Int32) + (-8 : Int32)))] [])) _
    refine XS.iloadN X0.here hx rfl (hb hby d_jdk_33_method_47_code_61) rfl ?_
    show Steps p.tables e below (s₁.setTop (mkF m 62 #[.val (.int (own_sh p1 (8 : Int32))), .val (.int ((31 : Int32) + (-8 : Int32)))] [(.int (own_sh p1 (8 : Int32)))])) _
    refine XS.iconst X0.here hx rfl (hb hby d_jdk_33_method_47_code_62) ?_
    show Steps p.tables e below (s₁.setTop (mkF m 63 #[.val (.int (own_sh p1 (8 : Int32))), .val (.int ((31 : Int32) + (-8 : Int32)))] [(.int (4 : Int32)), (.int (own_sh p1 (8 : Int32)))])) _
    refine XS.icmpNo X0.here hx rfl (hb hby d_jdk_33_method_47_code_63) rfl (flt hc63).1 ?_
    show Steps p.tables e below (s₁.setTop (mkF m 66 #[.val (.int (own_sh p1 (8 : Int32))), .val (.int ((31 : Int32) + (-8 : Int32)))] [])) _
    refine XS.iinc X0.here hx rfl (hb hby d_jdk_33_method_47_code_66) rfl (l' := #[.val (.int (own_sh p1 (8 : Int32))), .val (.int (((31 : Int32) + (-8 : Int32)) + (-2 : Int32)))]) rfl ?_
    show Steps p.tables e below (s₁.setTop (mkF m 69 #[.val (.int (own_sh p1 (8 : Int32))), .val (.int (((31 : Int32) + (-8 : Int32)) + (-2 : Int32)))] [])) _
    refine XS.iloadN X0.here hx rfl (hb hby d_jdk_33_method_47_code_69) rfl ?_
    show Steps p.tables e below (s₁.setTop (mkF m 70 #[.val (.int (own_sh p1 (8 : Int32))), .val (.int (((31 : Int32) + (-8 : Int32)) + (-2 : Int32)))] [(.int (own_sh p1 (8 : Int32)))])) _
    refine XS.iconst X0.here hx rfl (hb hby d_jdk_33_method_47_code_70) ?_
    show Steps p.tables e below (s₁.setTop (mkF m 71 #[.val (.int (own_sh p1 (8 : Int32))), .val (.int (((31 : Int32) + (-8 : Int32)) + (-2 : Int32)))] [(.int (2 : Int32)), (.int (own_sh p1 (8 : Int32)))])) _
    refine XS.iushr X0.here hx rfl (hb hby d_jdk_33_method_47_code_71) rfl ?_
    show Steps p.tables e below (s₁.setTop (mkF m 72 #[.val (.int (own_sh p1 (8 : Int32))), .val (.int (((31 : Int32) + (-8 : Int32)) + (-2 : Int32)))] [(.int (own_sh (own_sh p1 (8 : Int32)) (2 : Int32)))])) _
    refine XS.istoreN X0.here hx rfl (hb hby d_jdk_33_method_47_code_72) rfl (l' := #[.val (.int (own_sh (own_sh p1 (8 : Int32)) (2 : Int32))), .val (.int (((31 : Int32) + (-8 : Int32)) + (-2 : Int32)))]) rfl ?_
    show Steps p.tables e below (s₁.setTop (mkF m 73 #[.val (.int (own_sh (own_sh p1 (8 : Int32)) (2 : Int32))), .val (.int (((31 : Int32) + (-8 : Int32)) + (-2 : Int32)))] [])) _
    refine XS.iloadN X0.here hx rfl (hb hby d_jdk_33_method_47_code_73) rfl ?_
    show Steps p.tables e below (s₁.setTop (mkF m 74 #[.val (.int (own_sh (own_sh p1 (8 : Int32)) (2 : Int32))), .val (.int (((31 : Int32) + (-8 : Int32)) + (-2 : Int32)))] [(.int (((31 : Int32) + (-8 : Int32)) + (-2 : Int32)))])) _
    refine XS.iloadN X0.here hx rfl (hb hby d_jdk_33_method_47_code_74) rfl ?_
    show Steps p.tables e below (s₁.setTop (mkF m 75 #[.val (.int (own_sh (own_sh p1 (8 : Int32)) (2 : Int32))), .val (.int (((31 : Int32) + (-8 : Int32)) + (-2 : Int32)))] [(.int (own_sh (own_sh p1 (8 : Int32)) (2 : Int32))), (.int (((31 : Int32) + (-8 : Int32)) + (-2 : Int32)))])) _
    refine XS.iconst X0.here hx rfl (hb hby d_jdk_33_method_47_code_75) ?_
    show Steps p.tables e below (s₁.setTop (mkF m 76 #[.val (.int (own_sh (own_sh p1 (8 : Int32)) (2 : Int32))), .val (.int (((31 : Int32) + (-8 : Int32)) + (-2 : Int32)))] [(.int (1 : Int32)), (.int (own_sh (own_sh p1 (8 : Int32)) (2 : Int32))), (.int (((31 : Int32) + (-8 : Int32)) + (-2 : Int32)))])) _
    refine XS.iushr X0.here hx rfl (hb hby d_jdk_33_method_47_code_76) rfl ?_
    show Steps p.tables e below (s₁.setTop (mkF m 77 #[.val (.int (own_sh (own_sh p1 (8 : Int32)) (2 : Int32))), .val (.int (((31 : Int32) + (-8 : Int32)) + (-2 : Int32)))] [(.int (own_sh (own_sh (own_sh p1 (8 : Int32)) (2 : Int32)) (1 : Int32))), (.int (((31 : Int32) + (-8 : Int32)) + (-2 : Int32)))])) _
    refine XS.isub X0.here hx rfl (hb hby d_jdk_33_method_47_code_77) rfl ?_
    show Steps p.tables e below (s₁.setTop (mkF m 78 #[.val (.int (own_sh (own_sh p1 (8 : Int32)) (2 : Int32))), .val (.int (((31 : Int32) + (-8 : Int32)) + (-2 : Int32)))] [(.int ((((31 : Int32) + (-8 : Int32)) + (-2 : Int32)) - (own_sh (own_sh (own_sh p1 (8 : Int32)) (2 : Int32)) (1 : Int32))))])) _
    exact retI X0 hx Bd.returns (hb hby d_jdk_33_method_47_code_78) hr
  · show Q_rmZ Z p1 h0 n0 _ s₁.heap _
    rw [e0]
    exact ⟨by rw [hres], N0, rfl⟩
set_option maxRecDepth 65536 in
set_option maxHeartbeats 40000000 in
theorem rmZ_ttfft (l : Launch) (Z : State) (a0 : Array Value) (hw : ∀ d ∈ tables_1, d.before a0 Z = true) (ws : List Jvm.Cond) (p1 : Int32) (h0 : Heap) (n0 : Nat) (Z0 : n0 ≤ h0.size) (hc1 : (0 : Int32) < p1) (hc22 : p1 < (65536 : Int32)) (hc37 : ¬ (p1 < (256 : Int32))) (hc51 : ¬ ((own_sh p1 (8 : Int32)) < (16 : Int32))) (hc63 : (own_sh (own_sh p1 (8 : Int32)) (4 : Int32)) < (4 : Int32)) (hres : (own_nlz32 p1) = ((((31 : Int32) + (-8 : Int32)) + (-4 : Int32)) - (own_sh (own_sh (own_sh p1 (8 : Int32)) (4 : Int32)) (1 : Int32)))) :
    MetFree l (⟨"java/lang/Integer", "numberOfLeadingZeros", "(I)I"⟩ : MethodName) (head1 (Jvm.Cond.code (⟨"java/lang/Integer", "numberOfLeadingZeros", "(I)I"⟩ : MethodName) jdk_33_method_47_code 2 (some .int) :: ws) ({ frames := 0, cells := 0, slots := 0, locals := 0 } : Room)) (fun a U => a = #[(.int p1)] ∧ Z.Warmed39 U.vm ∧ U.heap = h0) (fun _ _ _ _ _ => True) (fun _ U o U' => ∃ v L, o = .returned v ∧ Q_rmZ Z p1 h0 n0 v U'.heap L ∧ FrameEnd U o U' L ({ frames := 0, cells := 0, slots := 0, locals := 0 } : Room).cells ({ frames := 0, cells := 0, slots := 0, locals := 0 } : Room).slots) := by
  refine MetFree.of_bodySF (plainFor_of_name pn_2) hisR ?_
  intro p e s m args below meth c s₁ Bd hml0 hP hK
  obtain ⟨rfl, hZ, hh⟩ := hP
  have hx := Bd.exec
  have hby := Bd.bytes
  have hml : c.maxLocals = 2 := hml0
  have hown : s.vm.findClass "java/lang/Integer" = some m.cls := findClass_of_methodNamed Bd.named
  have hnm := (name_of_methodNamed Bd.named Bd.method).1
  have X0 : Stand p l e ({ frames := 0, cells := 0, slots := 0, locals := 0 } : Room) s m #[(.int p1)] below meth c s₁ [] 0 0 := Stand.of_body Bd
  have e0 : s₁.heap = h0 := by rw [← hh, Bd.state]; rfl
  have N0 := Fr.nil n0
  have pre0 : ∀ t, Steps p.tables e below (s₁.setTop (mkF m 0 #[.val (.int p1), .unset] [])) t → Steps p.tables e below (s₁.setTop (entryFrame m #[(.int p1)] 2)) t := fun t k => castTop (ef_2 m p1) k
  obtain ⟨fs, hr, hrun, hended, hW, hsame⟩ := X0.leave (v := some (.int ((((31 : Int32) + (-8 : Int32)) + (-4 : Int32)) - (own_sh (own_sh (own_sh p1 (8 : Int32)) (4 : Int32)) (1 : Int32))))) (fun h => by rw [Bd.returns] at h; cases h)
  refine ⟨_, _, pre0 _ ?_, hrun, hended, _, _, rfl, ?_, ⟨_, rfl⟩, hW, hsame.mono (by decide) (by decide)⟩
  · show Steps p.tables e below (s₁.setTop (mkF m 0 #[.val (.int p1), .unset] [])) _
    refine XS.iloadN X0.here hx rfl (hb hby d_jdk_33_method_47_code_0) rfl ?_
    show Steps p.tables e below (s₁.setTop (mkF m 1 #[.val (.int p1), .unset] [(.int p1)])) _
    refine XS.ifYes X0.here hx rfl (pc0 := 1) (pc' := 15) rfl (hb hby d_jdk_33_method_47_code_1) rfl ((if0 _ _).trans (tlt hc1).2.2.1) (by decide) (by decide) ?_
    show Steps p.tables e below (s₁.setTop (mkF m 15 #[.val (.int p1), .unset] [])) _
    refine XS.bipush X0.here hx rfl (hb hby d_jdk_33_method_47_code_15) ?_
    show Steps p.tables e below (s₁.setTop (mkF m 17 #[.val (.int p1), .unset] [(.int (31 : Int32))])) _
    refine XS.istoreN X0.here hx rfl (hb hby d_jdk_33_method_47_code_17) rfl (l' := #[.val (.int p1), .val (.int (31 : Int32))]) rfl ?_
    show Steps p.tables e below (s₁.setTop (mkF m 18 #[.val (.int p1), .val (.int (31 : Int32))] [])) _
    refine XS.iloadN X0.here hx rfl (hb hby d_jdk_33_method_47_code_18) rfl ?_
    show Steps p.tables e below (s₁.setTop (mkF m 19 #[.val (.int p1), .val (.int (31 : Int32))] [(.int p1)])) _
    refine X0.ldcWI hx hown (mvT hZ (hw _ (List.mem_of_getElem? (i := 34) rfl))) (g := (mkF m 19 #[.val (.int p1), .val (.int (31 : Int32))] [(.int p1)])) rfl (hb hby d_jdk_33_method_47_code_19) ?_
    show Steps p.tables e below (s₁.setTop (mkF m 22 #[.val (.int p1), .val (.int (31 : Int32))] [(.int (65536 : Int32)), (.int p1)])) _
    refine XS.icmpYes X0.here hx rfl (pc0 := 22) (pc' := 33) rfl (hb hby d_jdk_33_method_47_code_22) rfl (tlt hc22).1 (by decide) (by decide) ?_
    show Steps p.tables e below (s₁.setTop (mkF m 33 #[.val (.int p1), .val (.int (31 : Int32))] [])) _
    refine XS.iloadN X0.here hx rfl (hb hby d_jdk_33_method_47_code_33) rfl ?_
    show Steps p.tables e below (s₁.setTop (mkF m 34 #[.val (.int p1), .val (.int (31 : Int32))] [(.int p1)])) _
    refine XS.sipush X0.here hx rfl (hb hby d_jdk_33_method_47_code_34) ?_
    show Steps p.tables e below (s₁.setTop (mkF m 37 #[.val (.int p1), .val (.int (31 : Int32))] [(.int (256 : Int32)), (.int p1)])) _
    refine XS.icmpNo X0.here hx rfl (hb hby d_jdk_33_method_47_code_37) rfl (flt hc37).1 ?_
    show Steps p.tables e below (s₁.setTop (mkF m 40 #[.val (.int p1), .val (.int (31 : Int32))] [])) _
    refine XS.iinc X0.here hx rfl (hb hby d_jdk_33_method_47_code_40) rfl (l' := #[.val (.int p1), .val (.int ((31 : Int32) + (-8 : Int32)))]) rfl ?_
    show Steps p.tables e below (s₁.setTop (mkF m 43 #[.val (.int p1), .val (.int ((31 : Int32) + (-8 : Int32)))] [])) _
    refine XS.iloadN X0.here hx rfl (hb hby d_jdk_33_method_47_code_43) rfl ?_
    show Steps p.tables e below (s₁.setTop (mkF m 44 #[.val (.int p1), .val (.int ((31 : Int32) + (-8 : Int32)))] [(.int p1)])) _
    refine XS.bipush X0.here hx rfl (hb hby d_jdk_33_method_47_code_44) ?_
    show Steps p.tables e below (s₁.setTop (mkF m 46 #[.val (.int p1), .val (.int ((31 : Int32) + (-8 : Int32)))] [(.int (8 : Int32)), (.int p1)])) _
    refine XS.iushr X0.here hx rfl (hb hby d_jdk_33_method_47_code_46) rfl ?_
    show Steps p.tables e below (s₁.setTop (mkF m 47 #[.val (.int p1), .val (.int ((31 : Int32) + (-8 : Int32)))] [(.int (own_sh p1 (8 : Int32)))])) _
    refine XS.istoreN X0.here hx rfl (hb hby d_jdk_33_method_47_code_47) rfl (l' := #[.val (.int (own_sh p1 (8 : Int32))), .val (.int ((31 : Int32) + (-8 : Int32)))]) rfl ?_
    show Steps p.tables e below (s₁.setTop (mkF m 48 #[.val (.int (own_sh p1 (8 : Int32))), .val (.int ((31 : Int32) + (-8 : Int32)))] [])) _
    refine XS.iloadN X0.here hx rfl (hb hby d_jdk_33_method_47_code_48) rfl ?_
    show Steps p.tables e below (s₁.setTop (mkF m 49 #[.val (.int (own_sh p1 (8 : Int32))), .val (.int ((31 : Int32) + (-8 : Int32)))] [(.int (own_sh p1 (8 : Int32)))])) _
    refine XS.bipush X0.here hx rfl (hb hby d_jdk_33_method_47_code_49) ?_
    show Steps p.tables e below (s₁.setTop (mkF m 51 #[.val (.int (own_sh p1 (8 : Int32))), .val (.int ((31 : Int32) + (-8 : Int32)))] [(.int (16 : Int32)), (.int (own_sh p1 (8 : Int32)))])) _
    refine XS.icmpNo X0.here hx rfl (hb hby d_jdk_33_method_47_code_51) rfl (flt hc51).1 ?_
    show Steps p.tables e below (s₁.setTop (mkF m 54 #[.val (.int (own_sh p1 (8 : Int32))), .val (.int ((31 : Int32) + (-8 : Int32)))] [])) _
    refine XS.iinc X0.here hx rfl (hb hby d_jdk_33_method_47_code_54) rfl (l' := #[.val (.int (own_sh p1 (8 : Int32))), .val (.int (((31 : Int32) + (-8 : Int32)) + (-4 : Int32)))]) rfl ?_
    show Steps p.tables e below (s₁.setTop (mkF m 57 #[.val (.int (own_sh p1 (8 : Int32))), .val (.int (((31 : Int32) + (-8 : Int32)) + (-4 : Int32)))] [])) _
    refine XS.iloadN X0.here hx rfl (hb hby d_jdk_33_method_47_code_57) rfl ?_
    show Steps p.tables e below (s₁.setTop (mkF m 58 #[.val (.int (own_sh p1 (8 : Int32))), .val (.int (((31 : Int32) + (-8 : Int32)) + (-4 : Int32)))] [(.int (own_sh p1 (8 : Int32)))])) _
    refine XS.iconst X0.here hx rfl (hb hby d_jdk_33_method_47_code_58) ?_
    show Steps p.tables e below (s₁.setTop (mkF m 59 #[.val (.int (own_sh p1 (8 : Int32))), .val (.int (((31 : Int32) + (-8 : Int32)) + (-4 : Int32)))] [(.int (4 : Int32)), (.int (own_sh p1 (8 : Int32)))])) _
    refine XS.iushr X0.here hx rfl (hb hby d_jdk_33_method_47_code_59) rfl ?_
    show Steps p.tables e below (s₁.setTop (mkF m 60 #[.val (.int (own_sh p1 (8 : Int32))), .val (.int (((31 : Int32) + (-8 : Int32)) + (-4 : Int32)))] [(.int (own_sh (own_sh p1 (8 : Int32)) (4 : Int32)))])) _
    refine XS.istoreN X0.here hx rfl (hb hby d_jdk_33_method_47_code_60) rfl (l' := #[.val (.int (own_sh (own_sh p1 (8 : Int32)) (4 : Int32))), .val (.int (((31 : Int32) + (-8 : Int32)) + (-4 : Int32)))]) rfl ?_
    show Steps p.tables e below (s₁.setTop (mkF m 61 #[.val (.int (own_sh (own_sh p1 (8 : Int32)) (4 : Int32))), .val (.int (((31 : Int32) + (-8 : Int32)) + (-4 : Int32)))] [])) _
    refine XS.iloadN X0.here hx rfl (hb hby d_jdk_33_method_47_code_61) rfl ?_
    show Steps p.tables e below (s₁.setTop (mkF m 62 #[.val (.int (own_sh (own_sh p1 (8 : Int32)) (4 : Int32))), .val (.int (((31 : Int32) + (-8 : Int32)) + (-4 : Int32)))] [(.int (own_sh (own_sh p1 (8 : Int32)) (4 : Int32)))])) _
    refine XS.iconst X0.here hx rfl (hb hby d_jdk_33_method_47_code_62) ?_
    show Steps p.tables e below (s₁.setTop (mkF m 63 #[.val (.int (own_sh (own_sh p1 (8 : Int32)) (4 : Int32))), .val (.int (((31 : Int32) + (-8 : Int32)) + (-4 : Int32)))] [(.int (4 : Int32)), (.int (own_sh (own_sh p1 (8 : Int32)) (4 : Int32)))])) _
    refine XS.icmpYes X0.here hx rfl (pc0 := 63) (pc' := 73) rfl (hb hby d_jdk_33_method_47_code_63) rfl (tlt hc63).1 (by decide) (by decide) ?_
    show Steps p.tables e below (s₁.setTop (mkF m 73 #[.val (.int (own_sh (own_sh p1 (8 : Int32)) (4 : Int32))), .val (.int (((31 : Int32) + (-8 : Int32)) + (-4 : Int32)))] [])) _
    refine XS.iloadN X0.here hx rfl (hb hby d_jdk_33_method_47_code_73) rfl ?_
    show Steps p.tables e below (s₁.setTop (mkF m 74 #[.val (.int (own_sh (own_sh p1 (8 : Int32)) (4 : Int32))), .val (.int (((31 : Int32) + (-8 : Int32)) + (-4 : Int32)))] [(.int (((31 : Int32) + (-8 : Int32)) + (-4 : Int32)))])) _
    refine XS.iloadN X0.here hx rfl (hb hby d_jdk_33_method_47_code_74) rfl ?_
    show Steps p.tables e below (s₁.setTop (mkF m 75 #[.val (.int (own_sh (own_sh p1 (8 : Int32)) (4 : Int32))), .val (.int (((31 : Int32) + (-8 : Int32)) + (-4 : Int32)))] [(.int (own_sh (own_sh p1 (8 : Int32)) (4 : Int32))), (.int (((31 : Int32) + (-8 : Int32)) + (-4 : Int32)))])) _
    refine XS.iconst X0.here hx rfl (hb hby d_jdk_33_method_47_code_75) ?_
    show Steps p.tables e below (s₁.setTop (mkF m 76 #[.val (.int (own_sh (own_sh p1 (8 : Int32)) (4 : Int32))), .val (.int (((31 : Int32) + (-8 : Int32)) + (-4 : Int32)))] [(.int (1 : Int32)), (.int (own_sh (own_sh p1 (8 : Int32)) (4 : Int32))), (.int (((31 : Int32) + (-8 : Int32)) + (-4 : Int32)))])) _
    refine XS.iushr X0.here hx rfl (hb hby d_jdk_33_method_47_code_76) rfl ?_
    show Steps p.tables e below (s₁.setTop (mkF m 77 #[.val (.int (own_sh (own_sh p1 (8 : Int32)) (4 : Int32))), .val (.int (((31 : Int32) + (-8 : Int32)) + (-4 : Int32)))] [(.int (own_sh (own_sh (own_sh p1 (8 : Int32)) (4 : Int32)) (1 : Int32))), (.int (((31 : Int32) + (-8 : Int32)) + (-4 : Int32)))])) _
    refine XS.isub X0.here hx rfl (hb hby d_jdk_33_method_47_code_77) rfl ?_
    show Steps p.tables e below (s₁.setTop (mkF m 78 #[.val (.int (own_sh (own_sh p1 (8 : Int32)) (4 : Int32))), .val (.int (((31 : Int32) + (-8 : Int32)) + (-4 : Int32)))] [(.int ((((31 : Int32) + (-8 : Int32)) + (-4 : Int32)) - (own_sh (own_sh (own_sh p1 (8 : Int32)) (4 : Int32)) (1 : Int32))))])) _
    exact retI X0 hx Bd.returns (hb hby d_jdk_33_method_47_code_78) hr
  · show Q_rmZ Z p1 h0 n0 _ s₁.heap _
    rw [e0]
    exact ⟨by rw [hres], N0, rfl⟩
set_option maxRecDepth 65536 in
set_option maxHeartbeats 40000000 in
theorem rmZ_ttfff (l : Launch) (Z : State) (a0 : Array Value) (hw : ∀ d ∈ tables_1, d.before a0 Z = true) (ws : List Jvm.Cond) (p1 : Int32) (h0 : Heap) (n0 : Nat) (Z0 : n0 ≤ h0.size) (hc1 : (0 : Int32) < p1) (hc22 : p1 < (65536 : Int32)) (hc37 : ¬ (p1 < (256 : Int32))) (hc51 : ¬ ((own_sh p1 (8 : Int32)) < (16 : Int32))) (hc63 : ¬ ((own_sh (own_sh p1 (8 : Int32)) (4 : Int32)) < (4 : Int32))) (hres : (own_nlz32 p1) = (((((31 : Int32) + (-8 : Int32)) + (-4 : Int32)) + (-2 : Int32)) - (own_sh (own_sh (own_sh (own_sh p1 (8 : Int32)) (4 : Int32)) (2 : Int32)) (1 : Int32)))) :
    MetFree l (⟨"java/lang/Integer", "numberOfLeadingZeros", "(I)I"⟩ : MethodName) (head1 (Jvm.Cond.code (⟨"java/lang/Integer", "numberOfLeadingZeros", "(I)I"⟩ : MethodName) jdk_33_method_47_code 2 (some .int) :: ws) ({ frames := 0, cells := 0, slots := 0, locals := 0 } : Room)) (fun a U => a = #[(.int p1)] ∧ Z.Warmed39 U.vm ∧ U.heap = h0) (fun _ _ _ _ _ => True) (fun _ U o U' => ∃ v L, o = .returned v ∧ Q_rmZ Z p1 h0 n0 v U'.heap L ∧ FrameEnd U o U' L ({ frames := 0, cells := 0, slots := 0, locals := 0 } : Room).cells ({ frames := 0, cells := 0, slots := 0, locals := 0 } : Room).slots) := by
  refine MetFree.of_bodySF (plainFor_of_name pn_2) hisR ?_
  intro p e s m args below meth c s₁ Bd hml0 hP hK
  obtain ⟨rfl, hZ, hh⟩ := hP
  have hx := Bd.exec
  have hby := Bd.bytes
  have hml : c.maxLocals = 2 := hml0
  have hown : s.vm.findClass "java/lang/Integer" = some m.cls := findClass_of_methodNamed Bd.named
  have hnm := (name_of_methodNamed Bd.named Bd.method).1
  have X0 : Stand p l e ({ frames := 0, cells := 0, slots := 0, locals := 0 } : Room) s m #[(.int p1)] below meth c s₁ [] 0 0 := Stand.of_body Bd
  have e0 : s₁.heap = h0 := by rw [← hh, Bd.state]; rfl
  have N0 := Fr.nil n0
  have pre0 : ∀ t, Steps p.tables e below (s₁.setTop (mkF m 0 #[.val (.int p1), .unset] [])) t → Steps p.tables e below (s₁.setTop (entryFrame m #[(.int p1)] 2)) t := fun t k => castTop (ef_2 m p1) k
  obtain ⟨fs, hr, hrun, hended, hW, hsame⟩ := X0.leave (v := some (.int (((((31 : Int32) + (-8 : Int32)) + (-4 : Int32)) + (-2 : Int32)) - (own_sh (own_sh (own_sh (own_sh p1 (8 : Int32)) (4 : Int32)) (2 : Int32)) (1 : Int32))))) (fun h => by rw [Bd.returns] at h; cases h)
  refine ⟨_, _, pre0 _ ?_, hrun, hended, _, _, rfl, ?_, ⟨_, rfl⟩, hW, hsame.mono (by decide) (by decide)⟩
  · show Steps p.tables e below (s₁.setTop (mkF m 0 #[.val (.int p1), .unset] [])) _
    refine XS.iloadN X0.here hx rfl (hb hby d_jdk_33_method_47_code_0) rfl ?_
    show Steps p.tables e below (s₁.setTop (mkF m 1 #[.val (.int p1), .unset] [(.int p1)])) _
    refine XS.ifYes X0.here hx rfl (pc0 := 1) (pc' := 15) rfl (hb hby d_jdk_33_method_47_code_1) rfl ((if0 _ _).trans (tlt hc1).2.2.1) (by decide) (by decide) ?_
    show Steps p.tables e below (s₁.setTop (mkF m 15 #[.val (.int p1), .unset] [])) _
    refine XS.bipush X0.here hx rfl (hb hby d_jdk_33_method_47_code_15) ?_
    show Steps p.tables e below (s₁.setTop (mkF m 17 #[.val (.int p1), .unset] [(.int (31 : Int32))])) _
    refine XS.istoreN X0.here hx rfl (hb hby d_jdk_33_method_47_code_17) rfl (l' := #[.val (.int p1), .val (.int (31 : Int32))]) rfl ?_
    show Steps p.tables e below (s₁.setTop (mkF m 18 #[.val (.int p1), .val (.int (31 : Int32))] [])) _
    refine XS.iloadN X0.here hx rfl (hb hby d_jdk_33_method_47_code_18) rfl ?_
    show Steps p.tables e below (s₁.setTop (mkF m 19 #[.val (.int p1), .val (.int (31 : Int32))] [(.int p1)])) _
    refine X0.ldcWI hx hown (mvT hZ (hw _ (List.mem_of_getElem? (i := 34) rfl))) (g := (mkF m 19 #[.val (.int p1), .val (.int (31 : Int32))] [(.int p1)])) rfl (hb hby d_jdk_33_method_47_code_19) ?_
    show Steps p.tables e below (s₁.setTop (mkF m 22 #[.val (.int p1), .val (.int (31 : Int32))] [(.int (65536 : Int32)), (.int p1)])) _
    refine XS.icmpYes X0.here hx rfl (pc0 := 22) (pc' := 33) rfl (hb hby d_jdk_33_method_47_code_22) rfl (tlt hc22).1 (by decide) (by decide) ?_
    show Steps p.tables e below (s₁.setTop (mkF m 33 #[.val (.int p1), .val (.int (31 : Int32))] [])) _
    refine XS.iloadN X0.here hx rfl (hb hby d_jdk_33_method_47_code_33) rfl ?_
    show Steps p.tables e below (s₁.setTop (mkF m 34 #[.val (.int p1), .val (.int (31 : Int32))] [(.int p1)])) _
    refine XS.sipush X0.here hx rfl (hb hby d_jdk_33_method_47_code_34) ?_
    show Steps p.tables e below (s₁.setTop (mkF m 37 #[.val (.int p1), .val (.int (31 : Int32))] [(.int (256 : Int32)), (.int p1)])) _
    refine XS.icmpNo X0.here hx rfl (hb hby d_jdk_33_method_47_code_37) rfl (flt hc37).1 ?_
    show Steps p.tables e below (s₁.setTop (mkF m 40 #[.val (.int p1), .val (.int (31 : Int32))] [])) _
    refine XS.iinc X0.here hx rfl (hb hby d_jdk_33_method_47_code_40) rfl (l' := #[.val (.int p1), .val (.int ((31 : Int32) + (-8 : Int32)))]) rfl ?_
    show Steps p.tables e below (s₁.setTop (mkF m 43 #[.val (.int p1), .val (.int ((31 : Int32) + (-8 : Int32)))] [])) _
    refine XS.iloadN X0.here hx rfl (hb hby d_jdk_33_method_47_code_43) rfl ?_
    show Steps p.tables e below (s₁.setTop (mkF m 44 #[.val (.int p1), .val (.int ((31 : Int32) + (-8 : Int32)))] [(.int p1)])) _
    refine XS.bipush X0.here hx rfl (hb hby d_jdk_33_method_47_code_44) ?_
    show Steps p.tables e below (s₁.setTop (mkF m 46 #[.val (.int p1), .val (.int ((31 : Int32) + (-8 : Int32)))] [(.int (8 : Int32)), (.int p1)])) _
    refine XS.iushr X0.here hx rfl (hb hby d_jdk_33_method_47_code_46) rfl ?_
    show Steps p.tables e below (s₁.setTop (mkF m 47 #[.val (.int p1), .val (.int ((31 : Int32) + (-8 : Int32)))] [(.int (own_sh p1 (8 : Int32)))])) _
    refine XS.istoreN X0.here hx rfl (hb hby d_jdk_33_method_47_code_47) rfl (l' := #[.val (.int (own_sh p1 (8 : Int32))), .val (.int ((31 : Int32) + (-8 : Int32)))]) rfl ?_
    show Steps p.tables e below (s₁.setTop (mkF m 48 #[.val (.int (own_sh p1 (8 : Int32))), .val (.int ((31 : Int32) + (-8 : Int32)))] [])) _
    refine XS.iloadN X0.here hx rfl (hb hby d_jdk_33_method_47_code_48) rfl ?_
    show Steps p.tables e below (s₁.setTop (mkF m 49 #[.val (.int (own_sh p1 (8 : Int32))), .val (.int ((31 : Int32) + (-8 : Int32)))] [(.int (own_sh p1 (8 : Int32)))])) _
    refine XS.bipush X0.here hx rfl (hb hby d_jdk_33_method_47_code_49) ?_
    show Steps p.tables e below (s₁.setTop (mkF m 51 #[.val (.int (own_sh p1 (8 : Int32))), .val (.int ((31 : Int32) + (-8 : Int32)))] [(.int (16 : Int32)), (.int (own_sh p1 (8 : Int32)))])) _
    refine XS.icmpNo X0.here hx rfl (hb hby d_jdk_33_method_47_code_51) rfl (flt hc51).1 ?_
    show Steps p.tables e below (s₁.setTop (mkF m 54 #[.val (.int (own_sh p1 (8 : Int32))), .val (.int ((31 : Int32) + (-8 : Int32)))] [])) _
    refine XS.iinc X0.here hx rfl (hb hby d_jdk_33_method_47_code_54) rfl (l' := #[.val (.int (own_sh p1 (8 : Int32))), .val (.int (((31 : Int32) + (-8 : Int32)) + (-4 : Int32)))]) rfl ?_
    show Steps p.tables e below (s₁.setTop (mkF m 57 #[.val (.int (own_sh p1 (8 : Int32))), .val (.int (((31 : Int32) + (-8 : Int32)) + (-4 : Int32)))] [])) _
    refine XS.iloadN X0.here hx rfl (hb hby d_jdk_33_method_47_code_57) rfl ?_
    show Steps p.tables e below (s₁.setTop (mkF m 58 #[.val (.int (own_sh p1 (8 : Int32))), .val (.int (((31 : Int32) + (-8 : Int32)) + (-4 : Int32)))] [(.int (own_sh p1 (8 : Int32)))])) _
    refine XS.iconst X0.here hx rfl (hb hby d_jdk_33_method_47_code_58) ?_
    show Steps p.tables e below (s₁.setTop (mkF m 59 #[.val (.int (own_sh p1 (8 : Int32))), .val (.int (((31 : Int32) + (-8 : Int32)) + (-4 : Int32)))] [(.int (4 : Int32)), (.int (own_sh p1 (8 : Int32)))])) _
    refine XS.iushr X0.here hx rfl (hb hby d_jdk_33_method_47_code_59) rfl ?_
    show Steps p.tables e below (s₁.setTop (mkF m 60 #[.val (.int (own_sh p1 (8 : Int32))), .val (.int (((31 : Int32) + (-8 : Int32)) + (-4 : Int32)))] [(.int (own_sh (own_sh p1 (8 : Int32)) (4 : Int32)))])) _
    refine XS.istoreN X0.here hx rfl (hb hby d_jdk_33_method_47_code_60) rfl (l' := #[.val (.int (own_sh (own_sh p1 (8 : Int32)) (4 : Int32))), .val (.int (((31 : Int32) + (-8 : Int32)) + (-4 : Int32)))]) rfl ?_
    show Steps p.tables e below (s₁.setTop (mkF m 61 #[.val (.int (own_sh (own_sh p1 (8 : Int32)) (4 : Int32))), .val (.int (((31 : Int32) + (-8 : Int32)) + (-4 : Int32)))] [])) _
    refine XS.iloadN X0.here hx rfl (hb hby d_jdk_33_method_47_code_61) rfl ?_
    show Steps p.tables e below (s₁.setTop (mkF m 62 #[.val (.int (own_sh (own_sh p1 (8 : Int32)) (4 : Int32))), .val (.int (((31 : Int32) + (-8 : Int32)) + (-4 : Int32)))] [(.int (own_sh (own_sh p1 (8 : Int32)) (4 : Int32)))])) _
    refine XS.iconst X0.here hx rfl (hb hby d_jdk_33_method_47_code_62) ?_
    show Steps p.tables e below (s₁.setTop (mkF m 63 #[.val (.int (own_sh (own_sh p1 (8 : Int32)) (4 : Int32))), .val (.int (((31 : Int32) + (-8 : Int32)) + (-4 : Int32)))] [(.int (4 : Int32)), (.int (own_sh (own_sh p1 (8 : Int32)) (4 : Int32)))])) _
    refine XS.icmpNo X0.here hx rfl (hb hby d_jdk_33_method_47_code_63) rfl (flt hc63).1 ?_
    show Steps p.tables e below (s₁.setTop (mkF m 66 #[.val (.int (own_sh (own_sh p1 (8 : Int32)) (4 : Int32))), .val (.int (((31 : Int32) + (-8 : Int32)) + (-4 : Int32)))] [])) _
    refine XS.iinc X0.here hx rfl (hb hby d_jdk_33_method_47_code_66) rfl (l' := #[.val (.int (own_sh (own_sh p1 (8 : Int32)) (4 : Int32))), .val (.int ((((31 : Int32) + (-8 : Int32)) + (-4 : Int32)) + (-2 : Int32)))]) rfl ?_
    show Steps p.tables e below (s₁.setTop (mkF m 69 #[.val (.int (own_sh (own_sh p1 (8 : Int32)) (4 : Int32))), .val (.int ((((31 : Int32) + (-8 : Int32)) + (-4 : Int32)) + (-2 : Int32)))] [])) _
    refine XS.iloadN X0.here hx rfl (hb hby d_jdk_33_method_47_code_69) rfl ?_
    show Steps p.tables e below (s₁.setTop (mkF m 70 #[.val (.int (own_sh (own_sh p1 (8 : Int32)) (4 : Int32))), .val (.int ((((31 : Int32) + (-8 : Int32)) + (-4 : Int32)) + (-2 : Int32)))] [(.int (own_sh (own_sh p1 (8 : Int32)) (4 : Int32)))])) _
    refine XS.iconst X0.here hx rfl (hb hby d_jdk_33_method_47_code_70) ?_
    show Steps p.tables e below (s₁.setTop (mkF m 71 #[.val (.int (own_sh (own_sh p1 (8 : Int32)) (4 : Int32))), .val (.int ((((31 : Int32) + (-8 : Int32)) + (-4 : Int32)) + (-2 : Int32)))] [(.int (2 : Int32)), (.int (own_sh (own_sh p1 (8 : Int32)) (4 : Int32)))])) _
    refine XS.iushr X0.here hx rfl (hb hby d_jdk_33_method_47_code_71) rfl ?_
    show Steps p.tables e below (s₁.setTop (mkF m 72 #[.val (.int (own_sh (own_sh p1 (8 : Int32)) (4 : Int32))), .val (.int ((((31 : Int32) + (-8 : Int32)) + (-4 : Int32)) + (-2 : Int32)))] [(.int (own_sh (own_sh (own_sh p1 (8 : Int32)) (4 : Int32)) (2 : Int32)))])) _
    refine XS.istoreN X0.here hx rfl (hb hby d_jdk_33_method_47_code_72) rfl (l' := #[.val (.int (own_sh (own_sh (own_sh p1 (8 : Int32)) (4 : Int32)) (2 : Int32))), .val (.int ((((31 : Int32) + (-8 : Int32)) + (-4 : Int32)) + (-2 : Int32)))]) rfl ?_
    show Steps p.tables e below (s₁.setTop (mkF m 73 #[.val (.int (own_sh (own_sh (own_sh p1 (8 : Int32)) (4 : Int32)) (2 : Int32))), .val (.int ((((31 : Int32) + (-8 : Int32)) + (-4 : Int32)) + (-2 : Int32)))] [])) _
    refine XS.iloadN X0.here hx rfl (hb hby d_jdk_33_method_47_code_73) rfl ?_
    show Steps p.tables e below (s₁.setTop (mkF m 74 #[.val (.int (own_sh (own_sh (own_sh p1 (8 : Int32)) (4 : Int32)) (2 : Int32))), .val (.int ((((31 : Int32) + (-8 : Int32)) + (-4 : Int32)) + (-2 : Int32)))] [(.int ((((31 : Int32) + (-8 : Int32)) + (-4 : Int32)) + (-2 : Int32)))])) _
    refine XS.iloadN X0.here hx rfl (hb hby d_jdk_33_method_47_code_74) rfl ?_
    show Steps p.tables e below (s₁.setTop (mkF m 75 #[.val (.int (own_sh (own_sh (own_sh p1 (8 : Int32)) (4 : Int32)) (2 : Int32))), .val (.int ((((31 : Int32) + (-8 : Int32)) + (-4 : Int32)) + (-2 : Int32)))] [(.int (own_sh (own_sh (own_sh p1 (8 : Int32)) (4 : Int32)) (2 : Int32))), (.int ((((31 : Int32) + (-8 : Int32)) + (-4 : Int32)) + (-2 : Int32)))])) _
    refine XS.iconst X0.here hx rfl (hb hby d_jdk_33_method_47_code_75) ?_
    show Steps p.tables e below (s₁.setTop (mkF m 76 #[.val (.int (own_sh (own_sh (own_sh p1 (8 : Int32)) (4 : Int32)) (2 : Int32))), .val (.int ((((31 : Int32) + (-8 : Int32)) + (-4 : Int32)) + (-2 : Int32)))] [(.int (1 : Int32)), (.int (own_sh (own_sh (own_sh p1 (8 : Int32)) (4 : Int32)) (2 : Int32))), (.int ((((31 : Int32) + (-8 : Int32)) + (-4 : Int32)) + (-2 : Int32)))])) _
    refine XS.iushr X0.here hx rfl (hb hby d_jdk_33_method_47_code_76) rfl ?_
    show Steps p.tables e below (s₁.setTop (mkF m 77 #[.val (.int (own_sh (own_sh (own_sh p1 (8 : Int32)) (4 : Int32)) (2 : Int32))), .val (.int ((((31 : Int32) + (-8 : Int32)) + (-4 : Int32)) + (-2 : Int32)))] [(.int (own_sh (own_sh (own_sh (own_sh p1 (8 : Int32)) (4 : Int32)) (2 : Int32)) (1 : Int32))), (.int ((((31 : Int32) + (-8 : Int32)) + (-4 : Int32)) + (-2 : Int32)))])) _
    refine XS.isub X0.here hx rfl (hb hby d_jdk_33_method_47_code_77) rfl ?_
    show Steps p.tables e below (s₁.setTop (mkF m 78 #[.val (.int (own_sh (own_sh (own_sh p1 (8 : Int32)) (4 : Int32)) (2 : Int32))), .val (.int ((((31 : Int32) + (-8 : Int32)) + (-4 : Int32)) + (-2 : Int32)))] [(.int (((((31 : Int32) + (-8 : Int32)) + (-4 : Int32)) + (-2 : Int32)) - (own_sh (own_sh (own_sh (own_sh p1 (8 : Int32)) (4 : Int32)) (2 : Int32)) (1 : Int32))))])) _
    exact retI X0 hx Bd.returns (hb hby d_jdk_33_method_47_code_78) hr
  · show Q_rmZ Z p1 h0 n0 _ s₁.heap _
    rw [e0]
    exact ⟨by rw [hres], N0, rfl⟩
set_option maxRecDepth 65536 in
set_option maxHeartbeats 40000000 in
theorem rmZ_tfttt (l : Launch) (Z : State) (a0 : Array Value) (hw : ∀ d ∈ tables_1, d.before a0 Z = true) (ws : List Jvm.Cond) (p1 : Int32) (h0 : Heap) (n0 : Nat) (Z0 : n0 ≤ h0.size) (hc1 : (0 : Int32) < p1) (hc22 : ¬ (p1 < (65536 : Int32))) (hc37 : (own_sh p1 (16 : Int32)) < (256 : Int32)) (hc51 : (own_sh p1 (16 : Int32)) < (16 : Int32)) (hc63 : (own_sh p1 (16 : Int32)) < (4 : Int32)) (hres : (own_nlz32 p1) = (((31 : Int32) + (-16 : Int32)) - (own_sh (own_sh p1 (16 : Int32)) (1 : Int32)))) :
    MetFree l (⟨"java/lang/Integer", "numberOfLeadingZeros", "(I)I"⟩ : MethodName) (head1 (Jvm.Cond.code (⟨"java/lang/Integer", "numberOfLeadingZeros", "(I)I"⟩ : MethodName) jdk_33_method_47_code 2 (some .int) :: ws) ({ frames := 0, cells := 0, slots := 0, locals := 0 } : Room)) (fun a U => a = #[(.int p1)] ∧ Z.Warmed39 U.vm ∧ U.heap = h0) (fun _ _ _ _ _ => True) (fun _ U o U' => ∃ v L, o = .returned v ∧ Q_rmZ Z p1 h0 n0 v U'.heap L ∧ FrameEnd U o U' L ({ frames := 0, cells := 0, slots := 0, locals := 0 } : Room).cells ({ frames := 0, cells := 0, slots := 0, locals := 0 } : Room).slots) := by
  refine MetFree.of_bodySF (plainFor_of_name pn_2) hisR ?_
  intro p e s m args below meth c s₁ Bd hml0 hP hK
  obtain ⟨rfl, hZ, hh⟩ := hP
  have hx := Bd.exec
  have hby := Bd.bytes
  have hml : c.maxLocals = 2 := hml0
  have hown : s.vm.findClass "java/lang/Integer" = some m.cls := findClass_of_methodNamed Bd.named
  have hnm := (name_of_methodNamed Bd.named Bd.method).1
  have X0 : Stand p l e ({ frames := 0, cells := 0, slots := 0, locals := 0 } : Room) s m #[(.int p1)] below meth c s₁ [] 0 0 := Stand.of_body Bd
  have e0 : s₁.heap = h0 := by rw [← hh, Bd.state]; rfl
  have N0 := Fr.nil n0
  have pre0 : ∀ t, Steps p.tables e below (s₁.setTop (mkF m 0 #[.val (.int p1), .unset] [])) t → Steps p.tables e below (s₁.setTop (entryFrame m #[(.int p1)] 2)) t := fun t k => castTop (ef_2 m p1) k
  obtain ⟨fs, hr, hrun, hended, hW, hsame⟩ := X0.leave (v := some (.int (((31 : Int32) + (-16 : Int32)) - (own_sh (own_sh p1 (16 : Int32)) (1 : Int32))))) (fun h => by rw [Bd.returns] at h; cases h)
  refine ⟨_, _, pre0 _ ?_, hrun, hended, _, _, rfl, ?_, ⟨_, rfl⟩, hW, hsame.mono (by decide) (by decide)⟩
  · show Steps p.tables e below (s₁.setTop (mkF m 0 #[.val (.int p1), .unset] [])) _
    refine XS.iloadN X0.here hx rfl (hb hby d_jdk_33_method_47_code_0) rfl ?_
    show Steps p.tables e below (s₁.setTop (mkF m 1 #[.val (.int p1), .unset] [(.int p1)])) _
    refine XS.ifYes X0.here hx rfl (pc0 := 1) (pc' := 15) rfl (hb hby d_jdk_33_method_47_code_1) rfl ((if0 _ _).trans (tlt hc1).2.2.1) (by decide) (by decide) ?_
    show Steps p.tables e below (s₁.setTop (mkF m 15 #[.val (.int p1), .unset] [])) _
    refine XS.bipush X0.here hx rfl (hb hby d_jdk_33_method_47_code_15) ?_
    show Steps p.tables e below (s₁.setTop (mkF m 17 #[.val (.int p1), .unset] [(.int (31 : Int32))])) _
    refine XS.istoreN X0.here hx rfl (hb hby d_jdk_33_method_47_code_17) rfl (l' := #[.val (.int p1), .val (.int (31 : Int32))]) rfl ?_
    show Steps p.tables e below (s₁.setTop (mkF m 18 #[.val (.int p1), .val (.int (31 : Int32))] [])) _
    refine XS.iloadN X0.here hx rfl (hb hby d_jdk_33_method_47_code_18) rfl ?_
    show Steps p.tables e below (s₁.setTop (mkF m 19 #[.val (.int p1), .val (.int (31 : Int32))] [(.int p1)])) _
    refine X0.ldcWI hx hown (mvT hZ (hw _ (List.mem_of_getElem? (i := 34) rfl))) (g := (mkF m 19 #[.val (.int p1), .val (.int (31 : Int32))] [(.int p1)])) rfl (hb hby d_jdk_33_method_47_code_19) ?_
    show Steps p.tables e below (s₁.setTop (mkF m 22 #[.val (.int p1), .val (.int (31 : Int32))] [(.int (65536 : Int32)), (.int p1)])) _
    refine XS.icmpNo X0.here hx rfl (hb hby d_jdk_33_method_47_code_22) rfl (flt hc22).1 ?_
    show Steps p.tables e below (s₁.setTop (mkF m 25 #[.val (.int p1), .val (.int (31 : Int32))] [])) _
    refine XS.iinc X0.here hx rfl (hb hby d_jdk_33_method_47_code_25) rfl (l' := #[.val (.int p1), .val (.int ((31 : Int32) + (-16 : Int32)))]) rfl ?_
    show Steps p.tables e below (s₁.setTop (mkF m 28 #[.val (.int p1), .val (.int ((31 : Int32) + (-16 : Int32)))] [])) _
    refine XS.iloadN X0.here hx rfl (hb hby d_jdk_33_method_47_code_28) rfl ?_
    show Steps p.tables e below (s₁.setTop (mkF m 29 #[.val (.int p1), .val (.int ((31 : Int32) + (-16 : Int32)))] [(.int p1)])) _
    refine XS.bipush X0.here hx rfl (hb hby d_jdk_33_method_47_code_29) ?_
    show Steps p.tables e below (s₁.setTop (mkF m 31 #[.val (.int p1), .val (.int ((31 : Int32) + (-16 : Int32)))] [(.int (16 : Int32)), (.int p1)])) _
    refine XS.iushr X0.here hx rfl (hb hby d_jdk_33_method_47_code_31) rfl ?_
    show Steps p.tables e below (s₁.setTop (mkF m 32 #[.val (.int p1), .val (.int ((31 : Int32) + (-16 : Int32)))] [(.int (own_sh p1 (16 : Int32)))])) _
    refine XS.istoreN X0.here hx rfl (hb hby d_jdk_33_method_47_code_32) rfl (l' := #[.val (.int (own_sh p1 (16 : Int32))), .val (.int ((31 : Int32) + (-16 : Int32)))]) rfl ?_
    show Steps p.tables e below (s₁.setTop (mkF m 33 #[.val (.int (own_sh p1 (16 : Int32))), .val (.int ((31 : Int32) + (-16 : Int32)))] [])) _
    refine XS.iloadN X0.here hx rfl (hb hby d_jdk_33_method_47_code_33) rfl ?_
    show Steps p.tables e below (s₁.setTop (mkF m 34 #[.val (.int (own_sh p1 (16 : Int32))), .val (.int ((31 : Int32) + (-16 : Int32)))] [(.int (own_sh p1 (16 : Int32)))])) _
    refine XS.sipush X0.here hx rfl (hb hby d_jdk_33_method_47_code_34) ?_
    show Steps p.tables e below (s₁.setTop (mkF m 37 #[.val (.int (own_sh p1 (16 : Int32))), .val (.int ((31 : Int32) + (-16 : Int32)))] [(.int (256 : Int32)), (.int (own_sh p1 (16 : Int32)))])) _
    refine XS.icmpYes X0.here hx rfl (pc0 := 37) (pc' := 48) rfl (hb hby d_jdk_33_method_47_code_37) rfl (tlt hc37).1 (by decide) (by decide) ?_
    show Steps p.tables e below (s₁.setTop (mkF m 48 #[.val (.int (own_sh p1 (16 : Int32))), .val (.int ((31 : Int32) + (-16 : Int32)))] [])) _
    refine XS.iloadN X0.here hx rfl (hb hby d_jdk_33_method_47_code_48) rfl ?_
    show Steps p.tables e below (s₁.setTop (mkF m 49 #[.val (.int (own_sh p1 (16 : Int32))), .val (.int ((31 : Int32) + (-16 : Int32)))] [(.int (own_sh p1 (16 : Int32)))])) _
    refine XS.bipush X0.here hx rfl (hb hby d_jdk_33_method_47_code_49) ?_
    show Steps p.tables e below (s₁.setTop (mkF m 51 #[.val (.int (own_sh p1 (16 : Int32))), .val (.int ((31 : Int32) + (-16 : Int32)))] [(.int (16 : Int32)), (.int (own_sh p1 (16 : Int32)))])) _
    refine XS.icmpYes X0.here hx rfl (pc0 := 51) (pc' := 61) rfl (hb hby d_jdk_33_method_47_code_51) rfl (tlt hc51).1 (by decide) (by decide) ?_
    show Steps p.tables e below (s₁.setTop (mkF m 61 #[.val (.int (own_sh p1 (16 : Int32))), .val (.int ((31 : Int32) + (-16 : Int32)))] [])) _
    refine XS.iloadN X0.here hx rfl (hb hby d_jdk_33_method_47_code_61) rfl ?_
    show Steps p.tables e below (s₁.setTop (mkF m 62 #[.val (.int (own_sh p1 (16 : Int32))), .val (.int ((31 : Int32) + (-16 : Int32)))] [(.int (own_sh p1 (16 : Int32)))])) _
    refine XS.iconst X0.here hx rfl (hb hby d_jdk_33_method_47_code_62) ?_
    show Steps p.tables e below (s₁.setTop (mkF m 63 #[.val (.int (own_sh p1 (16 : Int32))), .val (.int ((31 : Int32) + (-16 : Int32)))] [(.int (4 : Int32)), (.int (own_sh p1 (16 : Int32)))])) _
    refine XS.icmpYes X0.here hx rfl (pc0 := 63) (pc' := 73) rfl (hb hby d_jdk_33_method_47_code_63) rfl (tlt hc63).1 (by decide) (by decide) ?_
    show Steps p.tables e below (s₁.setTop (mkF m 73 #[.val (.int (own_sh p1 (16 : Int32))), .val (.int ((31 : Int32) + (-16 : Int32)))] [])) _
    refine XS.iloadN X0.here hx rfl (hb hby d_jdk_33_method_47_code_73) rfl ?_
    show Steps p.tables e below (s₁.setTop (mkF m 74 #[.val (.int (own_sh p1 (16 : Int32))), .val (.int ((31 : Int32) + (-16 : Int32)))] [(.int ((31 : Int32) + (-16 : Int32)))])) _
    refine XS.iloadN X0.here hx rfl (hb hby d_jdk_33_method_47_code_74) rfl ?_
    show Steps p.tables e below (s₁.setTop (mkF m 75 #[.val (.int (own_sh p1 (16 : Int32))), .val (.int ((31 : Int32) + (-16 : Int32)))] [(.int (own_sh p1 (16 : Int32))), (.int ((31 : Int32) + (-16 : Int32)))])) _
    refine XS.iconst X0.here hx rfl (hb hby d_jdk_33_method_47_code_75) ?_
    show Steps p.tables e below (s₁.setTop (mkF m 76 #[.val (.int (own_sh p1 (16 : Int32))), .val (.int ((31 : Int32) + (-16 : Int32)))] [(.int (1 : Int32)), (.int (own_sh p1 (16 : Int32))), (.int ((31 : Int32) + (-16 : Int32)))])) _
    refine XS.iushr X0.here hx rfl (hb hby d_jdk_33_method_47_code_76) rfl ?_
    show Steps p.tables e below (s₁.setTop (mkF m 77 #[.val (.int (own_sh p1 (16 : Int32))), .val (.int ((31 : Int32) + (-16 : Int32)))] [(.int (own_sh (own_sh p1 (16 : Int32)) (1 : Int32))), (.int ((31 : Int32) + (-16 : Int32)))])) _
    refine XS.isub X0.here hx rfl (hb hby d_jdk_33_method_47_code_77) rfl ?_
    show Steps p.tables e below (s₁.setTop (mkF m 78 #[.val (.int (own_sh p1 (16 : Int32))), .val (.int ((31 : Int32) + (-16 : Int32)))] [(.int (((31 : Int32) + (-16 : Int32)) - (own_sh (own_sh p1 (16 : Int32)) (1 : Int32))))])) _
    exact retI X0 hx Bd.returns (hb hby d_jdk_33_method_47_code_78) hr
  · show Q_rmZ Z p1 h0 n0 _ s₁.heap _
    rw [e0]
    exact ⟨by rw [hres], N0, rfl⟩
set_option maxRecDepth 65536 in
set_option maxHeartbeats 40000000 in
theorem rmZ_tfttf (l : Launch) (Z : State) (a0 : Array Value) (hw : ∀ d ∈ tables_1, d.before a0 Z = true) (ws : List Jvm.Cond) (p1 : Int32) (h0 : Heap) (n0 : Nat) (Z0 : n0 ≤ h0.size) (hc1 : (0 : Int32) < p1) (hc22 : ¬ (p1 < (65536 : Int32))) (hc37 : (own_sh p1 (16 : Int32)) < (256 : Int32)) (hc51 : (own_sh p1 (16 : Int32)) < (16 : Int32)) (hc63 : ¬ ((own_sh p1 (16 : Int32)) < (4 : Int32))) (hres : (own_nlz32 p1) = ((((31 : Int32) + (-16 : Int32)) + (-2 : Int32)) - (own_sh (own_sh (own_sh p1 (16 : Int32)) (2 : Int32)) (1 : Int32)))) :
    MetFree l (⟨"java/lang/Integer", "numberOfLeadingZeros", "(I)I"⟩ : MethodName) (head1 (Jvm.Cond.code (⟨"java/lang/Integer", "numberOfLeadingZeros", "(I)I"⟩ : MethodName) jdk_33_method_47_code 2 (some .int) :: ws) ({ frames := 0, cells := 0, slots := 0, locals := 0 } : Room)) (fun a U => a = #[(.int p1)] ∧ Z.Warmed39 U.vm ∧ U.heap = h0) (fun _ _ _ _ _ => True) (fun _ U o U' => ∃ v L, o = .returned v ∧ Q_rmZ Z p1 h0 n0 v U'.heap L ∧ FrameEnd U o U' L ({ frames := 0, cells := 0, slots := 0, locals := 0 } : Room).cells ({ frames := 0, cells := 0, slots := 0, locals := 0 } : Room).slots) := by
  refine MetFree.of_bodySF (plainFor_of_name pn_2) hisR ?_
  intro p e s m args below meth c s₁ Bd hml0 hP hK
  obtain ⟨rfl, hZ, hh⟩ := hP
  have hx := Bd.exec
  have hby := Bd.bytes
  have hml : c.maxLocals = 2 := hml0
  have hown : s.vm.findClass "java/lang/Integer" = some m.cls := findClass_of_methodNamed Bd.named
  have hnm := (name_of_methodNamed Bd.named Bd.method).1
  have X0 : Stand p l e ({ frames := 0, cells := 0, slots := 0, locals := 0 } : Room) s m #[(.int p1)] below meth c s₁ [] 0 0 := Stand.of_body Bd
  have e0 : s₁.heap = h0 := by rw [← hh, Bd.state]; rfl
  have N0 := Fr.nil n0
  have pre0 : ∀ t, Steps p.tables e below (s₁.setTop (mkF m 0 #[.val (.int p1), .unset] [])) t → Steps p.tables e below (s₁.setTop (entryFrame m #[(.int p1)] 2)) t := fun t k => castTop (ef_2 m p1) k
  obtain ⟨fs, hr, hrun, hended, hW, hsame⟩ := X0.leave (v := some (.int ((((31 : Int32) + (-16 : Int32)) + (-2 : Int32)) - (own_sh (own_sh (own_sh p1 (16 : Int32)) (2 : Int32)) (1 : Int32))))) (fun h => by rw [Bd.returns] at h; cases h)
  refine ⟨_, _, pre0 _ ?_, hrun, hended, _, _, rfl, ?_, ⟨_, rfl⟩, hW, hsame.mono (by decide) (by decide)⟩
  · show Steps p.tables e below (s₁.setTop (mkF m 0 #[.val (.int p1), .unset] [])) _
    refine XS.iloadN X0.here hx rfl (hb hby d_jdk_33_method_47_code_0) rfl ?_
    show Steps p.tables e below (s₁.setTop (mkF m 1 #[.val (.int p1), .unset] [(.int p1)])) _
    refine XS.ifYes X0.here hx rfl (pc0 := 1) (pc' := 15) rfl (hb hby d_jdk_33_method_47_code_1) rfl ((if0 _ _).trans (tlt hc1).2.2.1) (by decide) (by decide) ?_
    show Steps p.tables e below (s₁.setTop (mkF m 15 #[.val (.int p1), .unset] [])) _
    refine XS.bipush X0.here hx rfl (hb hby d_jdk_33_method_47_code_15) ?_
    show Steps p.tables e below (s₁.setTop (mkF m 17 #[.val (.int p1), .unset] [(.int (31 : Int32))])) _
    refine XS.istoreN X0.here hx rfl (hb hby d_jdk_33_method_47_code_17) rfl (l' := #[.val (.int p1), .val (.int (31 : Int32))]) rfl ?_
    show Steps p.tables e below (s₁.setTop (mkF m 18 #[.val (.int p1), .val (.int (31 : Int32))] [])) _
    refine XS.iloadN X0.here hx rfl (hb hby d_jdk_33_method_47_code_18) rfl ?_
    show Steps p.tables e below (s₁.setTop (mkF m 19 #[.val (.int p1), .val (.int (31 : Int32))] [(.int p1)])) _
    refine X0.ldcWI hx hown (mvT hZ (hw _ (List.mem_of_getElem? (i := 34) rfl))) (g := (mkF m 19 #[.val (.int p1), .val (.int (31 : Int32))] [(.int p1)])) rfl (hb hby d_jdk_33_method_47_code_19) ?_
    show Steps p.tables e below (s₁.setTop (mkF m 22 #[.val (.int p1), .val (.int (31 : Int32))] [(.int (65536 : Int32)), (.int p1)])) _
    refine XS.icmpNo X0.here hx rfl (hb hby d_jdk_33_method_47_code_22) rfl (flt hc22).1 ?_
    show Steps p.tables e below (s₁.setTop (mkF m 25 #[.val (.int p1), .val (.int (31 : Int32))] [])) _
    refine XS.iinc X0.here hx rfl (hb hby d_jdk_33_method_47_code_25) rfl (l' := #[.val (.int p1), .val (.int ((31 : Int32) + (-16 : Int32)))]) rfl ?_
    show Steps p.tables e below (s₁.setTop (mkF m 28 #[.val (.int p1), .val (.int ((31 : Int32) + (-16 : Int32)))] [])) _
    refine XS.iloadN X0.here hx rfl (hb hby d_jdk_33_method_47_code_28) rfl ?_
    show Steps p.tables e below (s₁.setTop (mkF m 29 #[.val (.int p1), .val (.int ((31 : Int32) + (-16 : Int32)))] [(.int p1)])) _
    refine XS.bipush X0.here hx rfl (hb hby d_jdk_33_method_47_code_29) ?_
    show Steps p.tables e below (s₁.setTop (mkF m 31 #[.val (.int p1), .val (.int ((31 : Int32) + (-16 : Int32)))] [(.int (16 : Int32)), (.int p1)])) _
    refine XS.iushr X0.here hx rfl (hb hby d_jdk_33_method_47_code_31) rfl ?_
    show Steps p.tables e below (s₁.setTop (mkF m 32 #[.val (.int p1), .val (.int ((31 : Int32) + (-16 : Int32)))] [(.int (own_sh p1 (16 : Int32)))])) _
    refine XS.istoreN X0.here hx rfl (hb hby d_jdk_33_method_47_code_32) rfl (l' := #[.val (.int (own_sh p1 (16 : Int32))), .val (.int ((31 : Int32) + (-16 : Int32)))]) rfl ?_
    show Steps p.tables e below (s₁.setTop (mkF m 33 #[.val (.int (own_sh p1 (16 : Int32))), .val (.int ((31 : Int32) + (-16 : Int32)))] [])) _
    refine XS.iloadN X0.here hx rfl (hb hby d_jdk_33_method_47_code_33) rfl ?_
    show Steps p.tables e below (s₁.setTop (mkF m 34 #[.val (.int (own_sh p1 (16 : Int32))), .val (.int ((31 : Int32) + (-16 : Int32)))] [(.int (own_sh p1 (16 : Int32)))])) _
    refine XS.sipush X0.here hx rfl (hb hby d_jdk_33_method_47_code_34) ?_
    show Steps p.tables e below (s₁.setTop (mkF m 37 #[.val (.int (own_sh p1 (16 : Int32))), .val (.int ((31 : Int32) + (-16 : Int32)))] [(.int (256 : Int32)), (.int (own_sh p1 (16 : Int32)))])) _
    refine XS.icmpYes X0.here hx rfl (pc0 := 37) (pc' := 48) rfl (hb hby d_jdk_33_method_47_code_37) rfl (tlt hc37).1 (by decide) (by decide) ?_
    show Steps p.tables e below (s₁.setTop (mkF m 48 #[.val (.int (own_sh p1 (16 : Int32))), .val (.int ((31 : Int32) + (-16 : Int32)))] [])) _
    refine XS.iloadN X0.here hx rfl (hb hby d_jdk_33_method_47_code_48) rfl ?_
    show Steps p.tables e below (s₁.setTop (mkF m 49 #[.val (.int (own_sh p1 (16 : Int32))), .val (.int ((31 : Int32) + (-16 : Int32)))] [(.int (own_sh p1 (16 : Int32)))])) _
    refine XS.bipush X0.here hx rfl (hb hby d_jdk_33_method_47_code_49) ?_
    show Steps p.tables e below (s₁.setTop (mkF m 51 #[.val (.int (own_sh p1 (16 : Int32))), .val (.int ((31 : Int32) + (-16 : Int32)))] [(.int (16 : Int32)), (.int (own_sh p1 (16 : Int32)))])) _
    refine XS.icmpYes X0.here hx rfl (pc0 := 51) (pc' := 61) rfl (hb hby d_jdk_33_method_47_code_51) rfl (tlt hc51).1 (by decide) (by decide) ?_
    show Steps p.tables e below (s₁.setTop (mkF m 61 #[.val (.int (own_sh p1 (16 : Int32))), .val (.int ((31 : Int32) + (-16 : Int32)))] [])) _
    refine XS.iloadN X0.here hx rfl (hb hby d_jdk_33_method_47_code_61) rfl ?_
    show Steps p.tables e below (s₁.setTop (mkF m 62 #[.val (.int (own_sh p1 (16 : Int32))), .val (.int ((31 : Int32) + (-16 : Int32)))] [(.int (own_sh p1 (16 : Int32)))])) _
    refine XS.iconst X0.here hx rfl (hb hby d_jdk_33_method_47_code_62) ?_
    show Steps p.tables e below (s₁.setTop (mkF m 63 #[.val (.int (own_sh p1 (16 : Int32))), .val (.int ((31 : Int32) + (-16 : Int32)))] [(.int (4 : Int32)), (.int (own_sh p1 (16 : Int32)))])) _
    refine XS.icmpNo X0.here hx rfl (hb hby d_jdk_33_method_47_code_63) rfl (flt hc63).1 ?_
    show Steps p.tables e below (s₁.setTop (mkF m 66 #[.val (.int (own_sh p1 (16 : Int32))), .val (.int ((31 : Int32) + (-16 : Int32)))] [])) _
    refine XS.iinc X0.here hx rfl (hb hby d_jdk_33_method_47_code_66) rfl (l' := #[.val (.int (own_sh p1 (16 : Int32))), .val (.int (((31 : Int32) + (-16 : Int32)) + (-2 : Int32)))]) rfl ?_
    show Steps p.tables e below (s₁.setTop (mkF m 69 #[.val (.int (own_sh p1 (16 : Int32))), .val (.int (((31 : Int32) + (-16 : Int32)) + (-2 : Int32)))] [])) _
    refine XS.iloadN X0.here hx rfl (hb hby d_jdk_33_method_47_code_69) rfl ?_
    show Steps p.tables e below (s₁.setTop (mkF m 70 #[.val (.int (own_sh p1 (16 : Int32))), .val (.int (((31 : Int32) + (-16 : Int32)) + (-2 : Int32)))] [(.int (own_sh p1 (16 : Int32)))])) _
    refine XS.iconst X0.here hx rfl (hb hby d_jdk_33_method_47_code_70) ?_
    show Steps p.tables e below (s₁.setTop (mkF m 71 #[.val (.int (own_sh p1 (16 : Int32))), .val (.int (((31 : Int32) + (-16 : Int32)) + (-2 : Int32)))] [(.int (2 : Int32)), (.int (own_sh p1 (16 : Int32)))])) _
    refine XS.iushr X0.here hx rfl (hb hby d_jdk_33_method_47_code_71) rfl ?_
    show Steps p.tables e below (s₁.setTop (mkF m 72 #[.val (.int (own_sh p1 (16 : Int32))), .val (.int (((31 : Int32) + (-16 : Int32)) + (-2 : Int32)))] [(.int (own_sh (own_sh p1 (16 : Int32)) (2 : Int32)))])) _
    refine XS.istoreN X0.here hx rfl (hb hby d_jdk_33_method_47_code_72) rfl (l' := #[.val (.int (own_sh (own_sh p1 (16 : Int32)) (2 : Int32))), .val (.int (((31 : Int32) + (-16 : Int32)) + (-2 : Int32)))]) rfl ?_
    show Steps p.tables e below (s₁.setTop (mkF m 73 #[.val (.int (own_sh (own_sh p1 (16 : Int32)) (2 : Int32))), .val (.int (((31 : Int32) + (-16 : Int32)) + (-2 : Int32)))] [])) _
    refine XS.iloadN X0.here hx rfl (hb hby d_jdk_33_method_47_code_73) rfl ?_
    show Steps p.tables e below (s₁.setTop (mkF m 74 #[.val (.int (own_sh (own_sh p1 (16 : Int32)) (2 : Int32))), .val (.int (((31 : Int32) + (-16 : Int32)) + (-2 : Int32)))] [(.int (((31 : Int32) + (-16 : Int32)) + (-2 : Int32)))])) _
    refine XS.iloadN X0.here hx rfl (hb hby d_jdk_33_method_47_code_74) rfl ?_
    show Steps p.tables e below (s₁.setTop (mkF m 75 #[.val (.int (own_sh (own_sh p1 (16 : Int32)) (2 : Int32))), .val (.int (((31 : Int32) + (-16 : Int32)) + (-2 : Int32)))] [(.int (own_sh (own_sh p1 (16 : Int32)) (2 : Int32))), (.int (((31 : Int32) + (-16 : Int32)) + (-2 : Int32)))])) _
    refine XS.iconst X0.here hx rfl (hb hby d_jdk_33_method_47_code_75) ?_
    show Steps p.tables e below (s₁.setTop (mkF m 76 #[.val (.int (own_sh (own_sh p1 (16 : Int32)) (2 : Int32))), .val (.int (((31 : Int32) + (-16 : Int32)) + (-2 : Int32)))] [(.int (1 : Int32)), (.int (own_sh (own_sh p1 (16 : Int32)) (2 : Int32))), (.int (((31 : Int32) + (-16 : Int32)) + (-2 : Int32)))])) _
    refine XS.iushr X0.here hx rfl (hb hby d_jdk_33_method_47_code_76) rfl ?_
    show Steps p.tables e below (s₁.setTop (mkF m 77 #[.val (.int (own_sh (own_sh p1 (16 : Int32)) (2 : Int32))), .val (.int (((31 : Int32) + (-16 : Int32)) + (-2 : Int32)))] [(.int (own_sh (own_sh (own_sh p1 (16 : Int32)) (2 : Int32)) (1 : Int32))), (.int (((31 : Int32) + (-16 : Int32)) + (-2 : Int32)))])) _
    refine XS.isub X0.here hx rfl (hb hby d_jdk_33_method_47_code_77) rfl ?_
    show Steps p.tables e below (s₁.setTop (mkF m 78 #[.val (.int (own_sh (own_sh p1 (16 : Int32)) (2 : Int32))), .val (.int (((31 : Int32) + (-16 : Int32)) + (-2 : Int32)))] [(.int ((((31 : Int32) + (-16 : Int32)) + (-2 : Int32)) - (own_sh (own_sh (own_sh p1 (16 : Int32)) (2 : Int32)) (1 : Int32))))])) _
    exact retI X0 hx Bd.returns (hb hby d_jdk_33_method_47_code_78) hr
  · show Q_rmZ Z p1 h0 n0 _ s₁.heap _
    rw [e0]
    exact ⟨by rw [hres], N0, rfl⟩
set_option maxRecDepth 65536 in
set_option maxHeartbeats 40000000 in
theorem rmZ_tftft (l : Launch) (Z : State) (a0 : Array Value) (hw : ∀ d ∈ tables_1, d.before a0 Z = true) (ws : List Jvm.Cond) (p1 : Int32) (h0 : Heap) (n0 : Nat) (Z0 : n0 ≤ h0.size) (hc1 : (0 : Int32) < p1) (hc22 : ¬ (p1 < (65536 : Int32))) (hc37 : (own_sh p1 (16 : Int32)) < (256 : Int32)) (hc51 : ¬ ((own_sh p1 (16 : Int32)) < (16 : Int32))) (hc63 : (own_sh (own_sh p1 (16 : Int32)) (4 : Int32)) < (4 : Int32)) (hres : (own_nlz32 p1) = ((((31 : Int32) + (-16 : Int32)) + (-4 : Int32)) - (own_sh (own_sh (own_sh p1 (16 : Int32)) (4 : Int32)) (1 : Int32)))) :
    MetFree l (⟨"java/lang/Integer", "numberOfLeadingZeros", "(I)I"⟩ : MethodName) (head1 (Jvm.Cond.code (⟨"java/lang/Integer", "numberOfLeadingZeros", "(I)I"⟩ : MethodName) jdk_33_method_47_code 2 (some .int) :: ws) ({ frames := 0, cells := 0, slots := 0, locals := 0 } : Room)) (fun a U => a = #[(.int p1)] ∧ Z.Warmed39 U.vm ∧ U.heap = h0) (fun _ _ _ _ _ => True) (fun _ U o U' => ∃ v L, o = .returned v ∧ Q_rmZ Z p1 h0 n0 v U'.heap L ∧ FrameEnd U o U' L ({ frames := 0, cells := 0, slots := 0, locals := 0 } : Room).cells ({ frames := 0, cells := 0, slots := 0, locals := 0 } : Room).slots) := by
  refine MetFree.of_bodySF (plainFor_of_name pn_2) hisR ?_
  intro p e s m args below meth c s₁ Bd hml0 hP hK
  obtain ⟨rfl, hZ, hh⟩ := hP
  have hx := Bd.exec
  have hby := Bd.bytes
  have hml : c.maxLocals = 2 := hml0
  have hown : s.vm.findClass "java/lang/Integer" = some m.cls := findClass_of_methodNamed Bd.named
  have hnm := (name_of_methodNamed Bd.named Bd.method).1
  have X0 : Stand p l e ({ frames := 0, cells := 0, slots := 0, locals := 0 } : Room) s m #[(.int p1)] below meth c s₁ [] 0 0 := Stand.of_body Bd
  have e0 : s₁.heap = h0 := by rw [← hh, Bd.state]; rfl
  have N0 := Fr.nil n0
  have pre0 : ∀ t, Steps p.tables e below (s₁.setTop (mkF m 0 #[.val (.int p1), .unset] [])) t → Steps p.tables e below (s₁.setTop (entryFrame m #[(.int p1)] 2)) t := fun t k => castTop (ef_2 m p1) k
  obtain ⟨fs, hr, hrun, hended, hW, hsame⟩ := X0.leave (v := some (.int ((((31 : Int32) + (-16 : Int32)) + (-4 : Int32)) - (own_sh (own_sh (own_sh p1 (16 : Int32)) (4 : Int32)) (1 : Int32))))) (fun h => by rw [Bd.returns] at h; cases h)
  refine ⟨_, _, pre0 _ ?_, hrun, hended, _, _, rfl, ?_, ⟨_, rfl⟩, hW, hsame.mono (by decide) (by decide)⟩
  · show Steps p.tables e below (s₁.setTop (mkF m 0 #[.val (.int p1), .unset] [])) _
    refine XS.iloadN X0.here hx rfl (hb hby d_jdk_33_method_47_code_0) rfl ?_
    show Steps p.tables e below (s₁.setTop (mkF m 1 #[.val (.int p1), .unset] [(.int p1)])) _
    refine XS.ifYes X0.here hx rfl (pc0 := 1) (pc' := 15) rfl (hb hby d_jdk_33_method_47_code_1) rfl ((if0 _ _).trans (tlt hc1).2.2.1) (by decide) (by decide) ?_
    show Steps p.tables e below (s₁.setTop (mkF m 15 #[.val (.int p1), .unset] [])) _
    refine XS.bipush X0.here hx rfl (hb hby d_jdk_33_method_47_code_15) ?_
    show Steps p.tables e below (s₁.setTop (mkF m 17 #[.val (.int p1), .unset] [(.int (31 : Int32))])) _
    refine XS.istoreN X0.here hx rfl (hb hby d_jdk_33_method_47_code_17) rfl (l' := #[.val (.int p1), .val (.int (31 : Int32))]) rfl ?_
    show Steps p.tables e below (s₁.setTop (mkF m 18 #[.val (.int p1), .val (.int (31 : Int32))] [])) _
    refine XS.iloadN X0.here hx rfl (hb hby d_jdk_33_method_47_code_18) rfl ?_
    show Steps p.tables e below (s₁.setTop (mkF m 19 #[.val (.int p1), .val (.int (31 : Int32))] [(.int p1)])) _
    refine X0.ldcWI hx hown (mvT hZ (hw _ (List.mem_of_getElem? (i := 34) rfl))) (g := (mkF m 19 #[.val (.int p1), .val (.int (31 : Int32))] [(.int p1)])) rfl (hb hby d_jdk_33_method_47_code_19) ?_
    show Steps p.tables e below (s₁.setTop (mkF m 22 #[.val (.int p1), .val (.int (31 : Int32))] [(.int (65536 : Int32)), (.int p1)])) _
    refine XS.icmpNo X0.here hx rfl (hb hby d_jdk_33_method_47_code_22) rfl (flt hc22).1 ?_
    show Steps p.tables e below (s₁.setTop (mkF m 25 #[.val (.int p1), .val (.int (31 : Int32))] [])) _
    refine XS.iinc X0.here hx rfl (hb hby d_jdk_33_method_47_code_25) rfl (l' := #[.val (.int p1), .val (.int ((31 : Int32) + (-16 : Int32)))]) rfl ?_
    show Steps p.tables e below (s₁.setTop (mkF m 28 #[.val (.int p1), .val (.int ((31 : Int32) + (-16 : Int32)))] [])) _
    refine XS.iloadN X0.here hx rfl (hb hby d_jdk_33_method_47_code_28) rfl ?_
    show Steps p.tables e below (s₁.setTop (mkF m 29 #[.val (.int p1), .val (.int ((31 : Int32) + (-16 : Int32)))] [(.int p1)])) _
    refine XS.bipush X0.here hx rfl (hb hby d_jdk_33_method_47_code_29) ?_
    show Steps p.tables e below (s₁.setTop (mkF m 31 #[.val (.int p1), .val (.int ((31 : Int32) + (-16 : Int32)))] [(.int (16 : Int32)), (.int p1)])) _
    refine XS.iushr X0.here hx rfl (hb hby d_jdk_33_method_47_code_31) rfl ?_
    show Steps p.tables e below (s₁.setTop (mkF m 32 #[.val (.int p1), .val (.int ((31 : Int32) + (-16 : Int32)))] [(.int (own_sh p1 (16 : Int32)))])) _
    refine XS.istoreN X0.here hx rfl (hb hby d_jdk_33_method_47_code_32) rfl (l' := #[.val (.int (own_sh p1 (16 : Int32))), .val (.int ((31 : Int32) + (-16 : Int32)))]) rfl ?_
    show Steps p.tables e below (s₁.setTop (mkF m 33 #[.val (.int (own_sh p1 (16 : Int32))), .val (.int ((31 : Int32) + (-16 : Int32)))] [])) _
    refine XS.iloadN X0.here hx rfl (hb hby d_jdk_33_method_47_code_33) rfl ?_
    show Steps p.tables e below (s₁.setTop (mkF m 34 #[.val (.int (own_sh p1 (16 : Int32))), .val (.int ((31 : Int32) + (-16 : Int32)))] [(.int (own_sh p1 (16 : Int32)))])) _
    refine XS.sipush X0.here hx rfl (hb hby d_jdk_33_method_47_code_34) ?_
    show Steps p.tables e below (s₁.setTop (mkF m 37 #[.val (.int (own_sh p1 (16 : Int32))), .val (.int ((31 : Int32) + (-16 : Int32)))] [(.int (256 : Int32)), (.int (own_sh p1 (16 : Int32)))])) _
    refine XS.icmpYes X0.here hx rfl (pc0 := 37) (pc' := 48) rfl (hb hby d_jdk_33_method_47_code_37) rfl (tlt hc37).1 (by decide) (by decide) ?_
    show Steps p.tables e below (s₁.setTop (mkF m 48 #[.val (.int (own_sh p1 (16 : Int32))), .val (.int ((31 : Int32) + (-16 : Int32)))] [])) _
    refine XS.iloadN X0.here hx rfl (hb hby d_jdk_33_method_47_code_48) rfl ?_
    show Steps p.tables e below (s₁.setTop (mkF m 49 #[.val (.int (own_sh p1 (16 : Int32))), .val (.int ((31 : Int32) + (-16 : Int32)))] [(.int (own_sh p1 (16 : Int32)))])) _
    refine XS.bipush X0.here hx rfl (hb hby d_jdk_33_method_47_code_49) ?_
    show Steps p.tables e below (s₁.setTop (mkF m 51 #[.val (.int (own_sh p1 (16 : Int32))), .val (.int ((31 : Int32) + (-16 : Int32)))] [(.int (16 : Int32)), (.int (own_sh p1 (16 : Int32)))])) _
    refine XS.icmpNo X0.here hx rfl (hb hby d_jdk_33_method_47_code_51) rfl (flt hc51).1 ?_
    show Steps p.tables e below (s₁.setTop (mkF m 54 #[.val (.int (own_sh p1 (16 : Int32))), .val (.int ((31 : Int32) + (-16 : Int32)))] [])) _
    refine XS.iinc X0.here hx rfl (hb hby d_jdk_33_method_47_code_54) rfl (l' := #[.val (.int (own_sh p1 (16 : Int32))), .val (.int (((31 : Int32) + (-16 : Int32)) + (-4 : Int32)))]) rfl ?_
    show Steps p.tables e below (s₁.setTop (mkF m 57 #[.val (.int (own_sh p1 (16 : Int32))), .val (.int (((31 : Int32) + (-16 : Int32)) + (-4 : Int32)))] [])) _
    refine XS.iloadN X0.here hx rfl (hb hby d_jdk_33_method_47_code_57) rfl ?_
    show Steps p.tables e below (s₁.setTop (mkF m 58 #[.val (.int (own_sh p1 (16 : Int32))), .val (.int (((31 : Int32) + (-16 : Int32)) + (-4 : Int32)))] [(.int (own_sh p1 (16 : Int32)))])) _
    refine XS.iconst X0.here hx rfl (hb hby d_jdk_33_method_47_code_58) ?_
    show Steps p.tables e below (s₁.setTop (mkF m 59 #[.val (.int (own_sh p1 (16 : Int32))), .val (.int (((31 : Int32) + (-16 : Int32)) + (-4 : Int32)))] [(.int (4 : Int32)), (.int (own_sh p1 (16 : Int32)))])) _
    refine XS.iushr X0.here hx rfl (hb hby d_jdk_33_method_47_code_59) rfl ?_
    show Steps p.tables e below (s₁.setTop (mkF m 60 #[.val (.int (own_sh p1 (16 : Int32))), .val (.int (((31 : Int32) + (-16 : Int32)) + (-4 : Int32)))] [(.int (own_sh (own_sh p1 (16 : Int32)) (4 : Int32)))])) _
    refine XS.istoreN X0.here hx rfl (hb hby d_jdk_33_method_47_code_60) rfl (l' := #[.val (.int (own_sh (own_sh p1 (16 : Int32)) (4 : Int32))), .val (.int (((31 : Int32) + (-16 : Int32)) + (-4 : Int32)))]) rfl ?_
    show Steps p.tables e below (s₁.setTop (mkF m 61 #[.val (.int (own_sh (own_sh p1 (16 : Int32)) (4 : Int32))), .val (.int (((31 : Int32) + (-16 : Int32)) + (-4 : Int32)))] [])) _
    refine XS.iloadN X0.here hx rfl (hb hby d_jdk_33_method_47_code_61) rfl ?_
    show Steps p.tables e below (s₁.setTop (mkF m 62 #[.val (.int (own_sh (own_sh p1 (16 : Int32)) (4 : Int32))), .val (.int (((31 : Int32) + (-16 : Int32)) + (-4 : Int32)))] [(.int (own_sh (own_sh p1 (16 : Int32)) (4 : Int32)))])) _
    refine XS.iconst X0.here hx rfl (hb hby d_jdk_33_method_47_code_62) ?_
    show Steps p.tables e below (s₁.setTop (mkF m 63 #[.val (.int (own_sh (own_sh p1 (16 : Int32)) (4 : Int32))), .val (.int (((31 : Int32) + (-16 : Int32)) + (-4 : Int32)))] [(.int (4 : Int32)), (.int (own_sh (own_sh p1 (16 : Int32)) (4 : Int32)))])) _
    refine XS.icmpYes X0.here hx rfl (pc0 := 63) (pc' := 73) rfl (hb hby d_jdk_33_method_47_code_63) rfl (tlt hc63).1 (by decide) (by decide) ?_
    show Steps p.tables e below (s₁.setTop (mkF m 73 #[.val (.int (own_sh (own_sh p1 (16 : Int32)) (4 : Int32))), .val (.int (((31 : Int32) + (-16 : Int32)) + (-4 : Int32)))] [])) _
    refine XS.iloadN X0.here hx rfl (hb hby d_jdk_33_method_47_code_73) rfl ?_
    show Steps p.tables e below (s₁.setTop (mkF m 74 #[.val (.int (own_sh (own_sh p1 (16 : Int32)) (4 : Int32))), .val (.int (((31 : Int32) + (-16 : Int32)) + (-4 : Int32)))] [(.int (((31 : Int32) + (-16 : Int32)) + (-4 : Int32)))])) _
    refine XS.iloadN X0.here hx rfl (hb hby d_jdk_33_method_47_code_74) rfl ?_
    show Steps p.tables e below (s₁.setTop (mkF m 75 #[.val (.int (own_sh (own_sh p1 (16 : Int32)) (4 : Int32))), .val (.int (((31 : Int32) + (-16 : Int32)) + (-4 : Int32)))] [(.int (own_sh (own_sh p1 (16 : Int32)) (4 : Int32))), (.int (((31 : Int32) + (-16 : Int32)) + (-4 : Int32)))])) _
    refine XS.iconst X0.here hx rfl (hb hby d_jdk_33_method_47_code_75) ?_
    show Steps p.tables e below (s₁.setTop (mkF m 76 #[.val (.int (own_sh (own_sh p1 (16 : Int32)) (4 : Int32))), .val (.int (((31 : Int32) + (-16 : Int32)) + (-4 : Int32)))] [(.int (1 : Int32)), (.int (own_sh (own_sh p1 (16 : Int32)) (4 : Int32))), (.int (((31 : Int32) + (-16 : Int32)) + (-4 : Int32)))])) _
    refine XS.iushr X0.here hx rfl (hb hby d_jdk_33_method_47_code_76) rfl ?_
    show Steps p.tables e below (s₁.setTop (mkF m 77 #[.val (.int (own_sh (own_sh p1 (16 : Int32)) (4 : Int32))), .val (.int (((31 : Int32) + (-16 : Int32)) + (-4 : Int32)))] [(.int (own_sh (own_sh (own_sh p1 (16 : Int32)) (4 : Int32)) (1 : Int32))), (.int (((31 : Int32) + (-16 : Int32)) + (-4 : Int32)))])) _
    refine XS.isub X0.here hx rfl (hb hby d_jdk_33_method_47_code_77) rfl ?_
    show Steps p.tables e below (s₁.setTop (mkF m 78 #[.val (.int (own_sh (own_sh p1 (16 : Int32)) (4 : Int32))), .val (.int (((31 : Int32) + (-16 : Int32)) + (-4 : Int32)))] [(.int ((((31 : Int32) + (-16 : Int32)) + (-4 : Int32)) - (own_sh (own_sh (own_sh p1 (16 : Int32)) (4 : Int32)) (1 : Int32))))])) _
    exact retI X0 hx Bd.returns (hb hby d_jdk_33_method_47_code_78) hr
  · show Q_rmZ Z p1 h0 n0 _ s₁.heap _
    rw [e0]
    exact ⟨by rw [hres], N0, rfl⟩
set_option maxRecDepth 65536 in
set_option maxHeartbeats 40000000 in
theorem rmZ_tftff (l : Launch) (Z : State) (a0 : Array Value) (hw : ∀ d ∈ tables_1, d.before a0 Z = true) (ws : List Jvm.Cond) (p1 : Int32) (h0 : Heap) (n0 : Nat) (Z0 : n0 ≤ h0.size) (hc1 : (0 : Int32) < p1) (hc22 : ¬ (p1 < (65536 : Int32))) (hc37 : (own_sh p1 (16 : Int32)) < (256 : Int32)) (hc51 : ¬ ((own_sh p1 (16 : Int32)) < (16 : Int32))) (hc63 : ¬ ((own_sh (own_sh p1 (16 : Int32)) (4 : Int32)) < (4 : Int32))) (hres : (own_nlz32 p1) = (((((31 : Int32) + (-16 : Int32)) + (-4 : Int32)) + (-2 : Int32)) - (own_sh (own_sh (own_sh (own_sh p1 (16 : Int32)) (4 : Int32)) (2 : Int32)) (1 : Int32)))) :
    MetFree l (⟨"java/lang/Integer", "numberOfLeadingZeros", "(I)I"⟩ : MethodName) (head1 (Jvm.Cond.code (⟨"java/lang/Integer", "numberOfLeadingZeros", "(I)I"⟩ : MethodName) jdk_33_method_47_code 2 (some .int) :: ws) ({ frames := 0, cells := 0, slots := 0, locals := 0 } : Room)) (fun a U => a = #[(.int p1)] ∧ Z.Warmed39 U.vm ∧ U.heap = h0) (fun _ _ _ _ _ => True) (fun _ U o U' => ∃ v L, o = .returned v ∧ Q_rmZ Z p1 h0 n0 v U'.heap L ∧ FrameEnd U o U' L ({ frames := 0, cells := 0, slots := 0, locals := 0 } : Room).cells ({ frames := 0, cells := 0, slots := 0, locals := 0 } : Room).slots) := by
  refine MetFree.of_bodySF (plainFor_of_name pn_2) hisR ?_
  intro p e s m args below meth c s₁ Bd hml0 hP hK
  obtain ⟨rfl, hZ, hh⟩ := hP
  have hx := Bd.exec
  have hby := Bd.bytes
  have hml : c.maxLocals = 2 := hml0
  have hown : s.vm.findClass "java/lang/Integer" = some m.cls := findClass_of_methodNamed Bd.named
  have hnm := (name_of_methodNamed Bd.named Bd.method).1
  have X0 : Stand p l e ({ frames := 0, cells := 0, slots := 0, locals := 0 } : Room) s m #[(.int p1)] below meth c s₁ [] 0 0 := Stand.of_body Bd
  have e0 : s₁.heap = h0 := by rw [← hh, Bd.state]; rfl
  have N0 := Fr.nil n0
  have pre0 : ∀ t, Steps p.tables e below (s₁.setTop (mkF m 0 #[.val (.int p1), .unset] [])) t → Steps p.tables e below (s₁.setTop (entryFrame m #[(.int p1)] 2)) t := fun t k => castTop (ef_2 m p1) k
  obtain ⟨fs, hr, hrun, hended, hW, hsame⟩ := X0.leave (v := some (.int (((((31 : Int32) + (-16 : Int32)) + (-4 : Int32)) + (-2 : Int32)) - (own_sh (own_sh (own_sh (own_sh p1 (16 : Int32)) (4 : Int32)) (2 : Int32)) (1 : Int32))))) (fun h => by rw [Bd.returns] at h; cases h)
  refine ⟨_, _, pre0 _ ?_, hrun, hended, _, _, rfl, ?_, ⟨_, rfl⟩, hW, hsame.mono (by decide) (by decide)⟩
  · show Steps p.tables e below (s₁.setTop (mkF m 0 #[.val (.int p1), .unset] [])) _
    refine XS.iloadN X0.here hx rfl (hb hby d_jdk_33_method_47_code_0) rfl ?_
    show Steps p.tables e below (s₁.setTop (mkF m 1 #[.val (.int p1), .unset] [(.int p1)])) _
    refine XS.ifYes X0.here hx rfl (pc0 := 1) (pc' := 15) rfl (hb hby d_jdk_33_method_47_code_1) rfl ((if0 _ _).trans (tlt hc1).2.2.1) (by decide) (by decide) ?_
    show Steps p.tables e below (s₁.setTop (mkF m 15 #[.val (.int p1), .unset] [])) _
    refine XS.bipush X0.here hx rfl (hb hby d_jdk_33_method_47_code_15) ?_
    show Steps p.tables e below (s₁.setTop (mkF m 17 #[.val (.int p1), .unset] [(.int (31 : Int32))])) _
    refine XS.istoreN X0.here hx rfl (hb hby d_jdk_33_method_47_code_17) rfl (l' := #[.val (.int p1), .val (.int (31 : Int32))]) rfl ?_
    show Steps p.tables e below (s₁.setTop (mkF m 18 #[.val (.int p1), .val (.int (31 : Int32))] [])) _
    refine XS.iloadN X0.here hx rfl (hb hby d_jdk_33_method_47_code_18) rfl ?_
    show Steps p.tables e below (s₁.setTop (mkF m 19 #[.val (.int p1), .val (.int (31 : Int32))] [(.int p1)])) _
    refine X0.ldcWI hx hown (mvT hZ (hw _ (List.mem_of_getElem? (i := 34) rfl))) (g := (mkF m 19 #[.val (.int p1), .val (.int (31 : Int32))] [(.int p1)])) rfl (hb hby d_jdk_33_method_47_code_19) ?_
    show Steps p.tables e below (s₁.setTop (mkF m 22 #[.val (.int p1), .val (.int (31 : Int32))] [(.int (65536 : Int32)), (.int p1)])) _
    refine XS.icmpNo X0.here hx rfl (hb hby d_jdk_33_method_47_code_22) rfl (flt hc22).1 ?_
    show Steps p.tables e below (s₁.setTop (mkF m 25 #[.val (.int p1), .val (.int (31 : Int32))] [])) _
    refine XS.iinc X0.here hx rfl (hb hby d_jdk_33_method_47_code_25) rfl (l' := #[.val (.int p1), .val (.int ((31 : Int32) + (-16 : Int32)))]) rfl ?_
    show Steps p.tables e below (s₁.setTop (mkF m 28 #[.val (.int p1), .val (.int ((31 : Int32) + (-16 : Int32)))] [])) _
    refine XS.iloadN X0.here hx rfl (hb hby d_jdk_33_method_47_code_28) rfl ?_
    show Steps p.tables e below (s₁.setTop (mkF m 29 #[.val (.int p1), .val (.int ((31 : Int32) + (-16 : Int32)))] [(.int p1)])) _
    refine XS.bipush X0.here hx rfl (hb hby d_jdk_33_method_47_code_29) ?_
    show Steps p.tables e below (s₁.setTop (mkF m 31 #[.val (.int p1), .val (.int ((31 : Int32) + (-16 : Int32)))] [(.int (16 : Int32)), (.int p1)])) _
    refine XS.iushr X0.here hx rfl (hb hby d_jdk_33_method_47_code_31) rfl ?_
    show Steps p.tables e below (s₁.setTop (mkF m 32 #[.val (.int p1), .val (.int ((31 : Int32) + (-16 : Int32)))] [(.int (own_sh p1 (16 : Int32)))])) _
    refine XS.istoreN X0.here hx rfl (hb hby d_jdk_33_method_47_code_32) rfl (l' := #[.val (.int (own_sh p1 (16 : Int32))), .val (.int ((31 : Int32) + (-16 : Int32)))]) rfl ?_
    show Steps p.tables e below (s₁.setTop (mkF m 33 #[.val (.int (own_sh p1 (16 : Int32))), .val (.int ((31 : Int32) + (-16 : Int32)))] [])) _
    refine XS.iloadN X0.here hx rfl (hb hby d_jdk_33_method_47_code_33) rfl ?_
    show Steps p.tables e below (s₁.setTop (mkF m 34 #[.val (.int (own_sh p1 (16 : Int32))), .val (.int ((31 : Int32) + (-16 : Int32)))] [(.int (own_sh p1 (16 : Int32)))])) _
    refine XS.sipush X0.here hx rfl (hb hby d_jdk_33_method_47_code_34) ?_
    show Steps p.tables e below (s₁.setTop (mkF m 37 #[.val (.int (own_sh p1 (16 : Int32))), .val (.int ((31 : Int32) + (-16 : Int32)))] [(.int (256 : Int32)), (.int (own_sh p1 (16 : Int32)))])) _
    refine XS.icmpYes X0.here hx rfl (pc0 := 37) (pc' := 48) rfl (hb hby d_jdk_33_method_47_code_37) rfl (tlt hc37).1 (by decide) (by decide) ?_
    show Steps p.tables e below (s₁.setTop (mkF m 48 #[.val (.int (own_sh p1 (16 : Int32))), .val (.int ((31 : Int32) + (-16 : Int32)))] [])) _
    refine XS.iloadN X0.here hx rfl (hb hby d_jdk_33_method_47_code_48) rfl ?_
    show Steps p.tables e below (s₁.setTop (mkF m 49 #[.val (.int (own_sh p1 (16 : Int32))), .val (.int ((31 : Int32) + (-16 : Int32)))] [(.int (own_sh p1 (16 : Int32)))])) _
    refine XS.bipush X0.here hx rfl (hb hby d_jdk_33_method_47_code_49) ?_
    show Steps p.tables e below (s₁.setTop (mkF m 51 #[.val (.int (own_sh p1 (16 : Int32))), .val (.int ((31 : Int32) + (-16 : Int32)))] [(.int (16 : Int32)), (.int (own_sh p1 (16 : Int32)))])) _
    refine XS.icmpNo X0.here hx rfl (hb hby d_jdk_33_method_47_code_51) rfl (flt hc51).1 ?_
    show Steps p.tables e below (s₁.setTop (mkF m 54 #[.val (.int (own_sh p1 (16 : Int32))), .val (.int ((31 : Int32) + (-16 : Int32)))] [])) _
    refine XS.iinc X0.here hx rfl (hb hby d_jdk_33_method_47_code_54) rfl (l' := #[.val (.int (own_sh p1 (16 : Int32))), .val (.int (((31 : Int32) + (-16 : Int32)) + (-4 : Int32)))]) rfl ?_
    show Steps p.tables e below (s₁.setTop (mkF m 57 #[.val (.int (own_sh p1 (16 : Int32))), .val (.int (((31 : Int32) + (-16 : Int32)) + (-4 : Int32)))] [])) _
    refine XS.iloadN X0.here hx rfl (hb hby d_jdk_33_method_47_code_57) rfl ?_
    show Steps p.tables e below (s₁.setTop (mkF m 58 #[.val (.int (own_sh p1 (16 : Int32))), .val (.int (((31 : Int32) + (-16 : Int32)) + (-4 : Int32)))] [(.int (own_sh p1 (16 : Int32)))])) _
    refine XS.iconst X0.here hx rfl (hb hby d_jdk_33_method_47_code_58) ?_
    show Steps p.tables e below (s₁.setTop (mkF m 59 #[.val (.int (own_sh p1 (16 : Int32))), .val (.int (((31 : Int32) + (-16 : Int32)) + (-4 : Int32)))] [(.int (4 : Int32)), (.int (own_sh p1 (16 : Int32)))])) _
    refine XS.iushr X0.here hx rfl (hb hby d_jdk_33_method_47_code_59) rfl ?_
    show Steps p.tables e below (s₁.setTop (mkF m 60 #[.val (.int (own_sh p1 (16 : Int32))), .val (.int (((31 : Int32) + (-16 : Int32)) + (-4 : Int32)))] [(.int (own_sh (own_sh p1 (16 : Int32)) (4 : Int32)))])) _
    refine XS.istoreN X0.here hx rfl (hb hby d_jdk_33_method_47_code_60) rfl (l' := #[.val (.int (own_sh (own_sh p1 (16 : Int32)) (4 : Int32))), .val (.int (((31 : Int32) + (-16 : Int32)) + (-4 : Int32)))]) rfl ?_
    show Steps p.tables e below (s₁.setTop (mkF m 61 #[.val (.int (own_sh (own_sh p1 (16 : Int32)) (4 : Int32))), .val (.int (((31 : Int32) + (-16 : Int32)) + (-4 : Int32)))] [])) _
    refine XS.iloadN X0.here hx rfl (hb hby d_jdk_33_method_47_code_61) rfl ?_
    show Steps p.tables e below (s₁.setTop (mkF m 62 #[.val (.int (own_sh (own_sh p1 (16 : Int32)) (4 : Int32))), .val (.int (((31 : Int32) + (-16 : Int32)) + (-4 : Int32)))] [(.int (own_sh (own_sh p1 (16 : Int32)) (4 : Int32)))])) _
    refine XS.iconst X0.here hx rfl (hb hby d_jdk_33_method_47_code_62) ?_
    show Steps p.tables e below (s₁.setTop (mkF m 63 #[.val (.int (own_sh (own_sh p1 (16 : Int32)) (4 : Int32))), .val (.int (((31 : Int32) + (-16 : Int32)) + (-4 : Int32)))] [(.int (4 : Int32)), (.int (own_sh (own_sh p1 (16 : Int32)) (4 : Int32)))])) _
    refine XS.icmpNo X0.here hx rfl (hb hby d_jdk_33_method_47_code_63) rfl (flt hc63).1 ?_
    show Steps p.tables e below (s₁.setTop (mkF m 66 #[.val (.int (own_sh (own_sh p1 (16 : Int32)) (4 : Int32))), .val (.int (((31 : Int32) + (-16 : Int32)) + (-4 : Int32)))] [])) _
    refine XS.iinc X0.here hx rfl (hb hby d_jdk_33_method_47_code_66) rfl (l' := #[.val (.int (own_sh (own_sh p1 (16 : Int32)) (4 : Int32))), .val (.int ((((31 : Int32) + (-16 : Int32)) + (-4 : Int32)) + (-2 : Int32)))]) rfl ?_
    show Steps p.tables e below (s₁.setTop (mkF m 69 #[.val (.int (own_sh (own_sh p1 (16 : Int32)) (4 : Int32))), .val (.int ((((31 : Int32) + (-16 : Int32)) + (-4 : Int32)) + (-2 : Int32)))] [])) _
    refine XS.iloadN X0.here hx rfl (hb hby d_jdk_33_method_47_code_69) rfl ?_
    show Steps p.tables e below (s₁.setTop (mkF m 70 #[.val (.int (own_sh (own_sh p1 (16 : Int32)) (4 : Int32))), .val (.int ((((31 : Int32) + (-16 : Int32)) + (-4 : Int32)) + (-2 : Int32)))] [(.int (own_sh (own_sh p1 (16 : Int32)) (4 : Int32)))])) _
    refine XS.iconst X0.here hx rfl (hb hby d_jdk_33_method_47_code_70) ?_
    show Steps p.tables e below (s₁.setTop (mkF m 71 #[.val (.int (own_sh (own_sh p1 (16 : Int32)) (4 : Int32))), .val (.int ((((31 : Int32) + (-16 : Int32)) + (-4 : Int32)) + (-2 : Int32)))] [(.int (2 : Int32)), (.int (own_sh (own_sh p1 (16 : Int32)) (4 : Int32)))])) _
    refine XS.iushr X0.here hx rfl (hb hby d_jdk_33_method_47_code_71) rfl ?_
    show Steps p.tables e below (s₁.setTop (mkF m 72 #[.val (.int (own_sh (own_sh p1 (16 : Int32)) (4 : Int32))), .val (.int ((((31 : Int32) + (-16 : Int32)) + (-4 : Int32)) + (-2 : Int32)))] [(.int (own_sh (own_sh (own_sh p1 (16 : Int32)) (4 : Int32)) (2 : Int32)))])) _
    refine XS.istoreN X0.here hx rfl (hb hby d_jdk_33_method_47_code_72) rfl (l' := #[.val (.int (own_sh (own_sh (own_sh p1 (16 : Int32)) (4 : Int32)) (2 : Int32))), .val (.int ((((31 : Int32) + (-16 : Int32)) + (-4 : Int32)) + (-2 : Int32)))]) rfl ?_
    show Steps p.tables e below (s₁.setTop (mkF m 73 #[.val (.int (own_sh (own_sh (own_sh p1 (16 : Int32)) (4 : Int32)) (2 : Int32))), .val (.int ((((31 : Int32) + (-16 : Int32)) + (-4 : Int32)) + (-2 : Int32)))] [])) _
    refine XS.iloadN X0.here hx rfl (hb hby d_jdk_33_method_47_code_73) rfl ?_
    show Steps p.tables e below (s₁.setTop (mkF m 74 #[.val (.int (own_sh (own_sh (own_sh p1 (16 : Int32)) (4 : Int32)) (2 : Int32))), .val (.int ((((31 : Int32) + (-16 : Int32)) + (-4 : Int32)) + (-2 : Int32)))] [(.int ((((31 : Int32) + (-16 : Int32)) + (-4 : Int32)) + (-2 : Int32)))])) _
    refine XS.iloadN X0.here hx rfl (hb hby d_jdk_33_method_47_code_74) rfl ?_
    show Steps p.tables e below (s₁.setTop (mkF m 75 #[.val (.int (own_sh (own_sh (own_sh p1 (16 : Int32)) (4 : Int32)) (2 : Int32))), .val (.int ((((31 : Int32) + (-16 : Int32)) + (-4 : Int32)) + (-2 : Int32)))] [(.int (own_sh (own_sh (own_sh p1 (16 : Int32)) (4 : Int32)) (2 : Int32))), (.int ((((31 : Int32) + (-16 : Int32)) + (-4 : Int32)) + (-2 : Int32)))])) _
    refine XS.iconst X0.here hx rfl (hb hby d_jdk_33_method_47_code_75) ?_
    show Steps p.tables e below (s₁.setTop (mkF m 76 #[.val (.int (own_sh (own_sh (own_sh p1 (16 : Int32)) (4 : Int32)) (2 : Int32))), .val (.int ((((31 : Int32) + (-16 : Int32)) + (-4 : Int32)) + (-2 : Int32)))] [(.int (1 : Int32)), (.int (own_sh (own_sh (own_sh p1 (16 : Int32)) (4 : Int32)) (2 : Int32))), (.int ((((31 : Int32) + (-16 : Int32)) + (-4 : Int32)) + (-2 : Int32)))])) _
    refine XS.iushr X0.here hx rfl (hb hby d_jdk_33_method_47_code_76) rfl ?_
    show Steps p.tables e below (s₁.setTop (mkF m 77 #[.val (.int (own_sh (own_sh (own_sh p1 (16 : Int32)) (4 : Int32)) (2 : Int32))), .val (.int ((((31 : Int32) + (-16 : Int32)) + (-4 : Int32)) + (-2 : Int32)))] [(.int (own_sh (own_sh (own_sh (own_sh p1 (16 : Int32)) (4 : Int32)) (2 : Int32)) (1 : Int32))), (.int ((((31 : Int32) + (-16 : Int32)) + (-4 : Int32)) + (-2 : Int32)))])) _
    refine XS.isub X0.here hx rfl (hb hby d_jdk_33_method_47_code_77) rfl ?_
    show Steps p.tables e below (s₁.setTop (mkF m 78 #[.val (.int (own_sh (own_sh (own_sh p1 (16 : Int32)) (4 : Int32)) (2 : Int32))), .val (.int ((((31 : Int32) + (-16 : Int32)) + (-4 : Int32)) + (-2 : Int32)))] [(.int (((((31 : Int32) + (-16 : Int32)) + (-4 : Int32)) + (-2 : Int32)) - (own_sh (own_sh (own_sh (own_sh p1 (16 : Int32)) (4 : Int32)) (2 : Int32)) (1 : Int32))))])) _
    exact retI X0 hx Bd.returns (hb hby d_jdk_33_method_47_code_78) hr
  · show Q_rmZ Z p1 h0 n0 _ s₁.heap _
    rw [e0]
    exact ⟨by rw [hres], N0, rfl⟩
set_option maxRecDepth 65536 in
set_option maxHeartbeats 40000000 in
theorem rmZ_tfftt (l : Launch) (Z : State) (a0 : Array Value) (hw : ∀ d ∈ tables_1, d.before a0 Z = true) (ws : List Jvm.Cond) (p1 : Int32) (h0 : Heap) (n0 : Nat) (Z0 : n0 ≤ h0.size) (hc1 : (0 : Int32) < p1) (hc22 : ¬ (p1 < (65536 : Int32))) (hc37 : ¬ ((own_sh p1 (16 : Int32)) < (256 : Int32))) (hc51 : (own_sh (own_sh p1 (16 : Int32)) (8 : Int32)) < (16 : Int32)) (hc63 : (own_sh (own_sh p1 (16 : Int32)) (8 : Int32)) < (4 : Int32)) (hres : (own_nlz32 p1) = ((((31 : Int32) + (-16 : Int32)) + (-8 : Int32)) - (own_sh (own_sh (own_sh p1 (16 : Int32)) (8 : Int32)) (1 : Int32)))) :
    MetFree l (⟨"java/lang/Integer", "numberOfLeadingZeros", "(I)I"⟩ : MethodName) (head1 (Jvm.Cond.code (⟨"java/lang/Integer", "numberOfLeadingZeros", "(I)I"⟩ : MethodName) jdk_33_method_47_code 2 (some .int) :: ws) ({ frames := 0, cells := 0, slots := 0, locals := 0 } : Room)) (fun a U => a = #[(.int p1)] ∧ Z.Warmed39 U.vm ∧ U.heap = h0) (fun _ _ _ _ _ => True) (fun _ U o U' => ∃ v L, o = .returned v ∧ Q_rmZ Z p1 h0 n0 v U'.heap L ∧ FrameEnd U o U' L ({ frames := 0, cells := 0, slots := 0, locals := 0 } : Room).cells ({ frames := 0, cells := 0, slots := 0, locals := 0 } : Room).slots) := by
  refine MetFree.of_bodySF (plainFor_of_name pn_2) hisR ?_
  intro p e s m args below meth c s₁ Bd hml0 hP hK
  obtain ⟨rfl, hZ, hh⟩ := hP
  have hx := Bd.exec
  have hby := Bd.bytes
  have hml : c.maxLocals = 2 := hml0
  have hown : s.vm.findClass "java/lang/Integer" = some m.cls := findClass_of_methodNamed Bd.named
  have hnm := (name_of_methodNamed Bd.named Bd.method).1
  have X0 : Stand p l e ({ frames := 0, cells := 0, slots := 0, locals := 0 } : Room) s m #[(.int p1)] below meth c s₁ [] 0 0 := Stand.of_body Bd
  have e0 : s₁.heap = h0 := by rw [← hh, Bd.state]; rfl
  have N0 := Fr.nil n0
  have pre0 : ∀ t, Steps p.tables e below (s₁.setTop (mkF m 0 #[.val (.int p1), .unset] [])) t → Steps p.tables e below (s₁.setTop (entryFrame m #[(.int p1)] 2)) t := fun t k => castTop (ef_2 m p1) k
  obtain ⟨fs, hr, hrun, hended, hW, hsame⟩ := X0.leave (v := some (.int ((((31 : Int32) + (-16 : Int32)) + (-8 : Int32)) - (own_sh (own_sh (own_sh p1 (16 : Int32)) (8 : Int32)) (1 : Int32))))) (fun h => by rw [Bd.returns] at h; cases h)
  refine ⟨_, _, pre0 _ ?_, hrun, hended, _, _, rfl, ?_, ⟨_, rfl⟩, hW, hsame.mono (by decide) (by decide)⟩
  · show Steps p.tables e below (s₁.setTop (mkF m 0 #[.val (.int p1), .unset] [])) _
    refine XS.iloadN X0.here hx rfl (hb hby d_jdk_33_method_47_code_0) rfl ?_
    show Steps p.tables e below (s₁.setTop (mkF m 1 #[.val (.int p1), .unset] [(.int p1)])) _
    refine XS.ifYes X0.here hx rfl (pc0 := 1) (pc' := 15) rfl (hb hby d_jdk_33_method_47_code_1) rfl ((if0 _ _).trans (tlt hc1).2.2.1) (by decide) (by decide) ?_
    show Steps p.tables e below (s₁.setTop (mkF m 15 #[.val (.int p1), .unset] [])) _
    refine XS.bipush X0.here hx rfl (hb hby d_jdk_33_method_47_code_15) ?_
    show Steps p.tables e below (s₁.setTop (mkF m 17 #[.val (.int p1), .unset] [(.int (31 : Int32))])) _
    refine XS.istoreN X0.here hx rfl (hb hby d_jdk_33_method_47_code_17) rfl (l' := #[.val (.int p1), .val (.int (31 : Int32))]) rfl ?_
    show Steps p.tables e below (s₁.setTop (mkF m 18 #[.val (.int p1), .val (.int (31 : Int32))] [])) _
    refine XS.iloadN X0.here hx rfl (hb hby d_jdk_33_method_47_code_18) rfl ?_
    show Steps p.tables e below (s₁.setTop (mkF m 19 #[.val (.int p1), .val (.int (31 : Int32))] [(.int p1)])) _
    refine X0.ldcWI hx hown (mvT hZ (hw _ (List.mem_of_getElem? (i := 34) rfl))) (g := (mkF m 19 #[.val (.int p1), .val (.int (31 : Int32))] [(.int p1)])) rfl (hb hby d_jdk_33_method_47_code_19) ?_
    show Steps p.tables e below (s₁.setTop (mkF m 22 #[.val (.int p1), .val (.int (31 : Int32))] [(.int (65536 : Int32)), (.int p1)])) _
    refine XS.icmpNo X0.here hx rfl (hb hby d_jdk_33_method_47_code_22) rfl (flt hc22).1 ?_
    show Steps p.tables e below (s₁.setTop (mkF m 25 #[.val (.int p1), .val (.int (31 : Int32))] [])) _
    refine XS.iinc X0.here hx rfl (hb hby d_jdk_33_method_47_code_25) rfl (l' := #[.val (.int p1), .val (.int ((31 : Int32) + (-16 : Int32)))]) rfl ?_
    show Steps p.tables e below (s₁.setTop (mkF m 28 #[.val (.int p1), .val (.int ((31 : Int32) + (-16 : Int32)))] [])) _
    refine XS.iloadN X0.here hx rfl (hb hby d_jdk_33_method_47_code_28) rfl ?_
    show Steps p.tables e below (s₁.setTop (mkF m 29 #[.val (.int p1), .val (.int ((31 : Int32) + (-16 : Int32)))] [(.int p1)])) _
    refine XS.bipush X0.here hx rfl (hb hby d_jdk_33_method_47_code_29) ?_
    show Steps p.tables e below (s₁.setTop (mkF m 31 #[.val (.int p1), .val (.int ((31 : Int32) + (-16 : Int32)))] [(.int (16 : Int32)), (.int p1)])) _
    refine XS.iushr X0.here hx rfl (hb hby d_jdk_33_method_47_code_31) rfl ?_
    show Steps p.tables e below (s₁.setTop (mkF m 32 #[.val (.int p1), .val (.int ((31 : Int32) + (-16 : Int32)))] [(.int (own_sh p1 (16 : Int32)))])) _
    refine XS.istoreN X0.here hx rfl (hb hby d_jdk_33_method_47_code_32) rfl (l' := #[.val (.int (own_sh p1 (16 : Int32))), .val (.int ((31 : Int32) + (-16 : Int32)))]) rfl ?_
    show Steps p.tables e below (s₁.setTop (mkF m 33 #[.val (.int (own_sh p1 (16 : Int32))), .val (.int ((31 : Int32) + (-16 : Int32)))] [])) _
    refine XS.iloadN X0.here hx rfl (hb hby d_jdk_33_method_47_code_33) rfl ?_
    show Steps p.tables e below (s₁.setTop (mkF m 34 #[.val (.int (own_sh p1 (16 : Int32))), .val (.int ((31 : Int32) + (-16 : Int32)))] [(.int (own_sh p1 (16 : Int32)))])) _
    refine XS.sipush X0.here hx rfl (hb hby d_jdk_33_method_47_code_34) ?_
    show Steps p.tables e below (s₁.setTop (mkF m 37 #[.val (.int (own_sh p1 (16 : Int32))), .val (.int ((31 : Int32) + (-16 : Int32)))] [(.int (256 : Int32)), (.int (own_sh p1 (16 : Int32)))])) _
    refine XS.icmpNo X0.here hx rfl (hb hby d_jdk_33_method_47_code_37) rfl (flt hc37).1 ?_
    show Steps p.tables e below (s₁.setTop (mkF m 40 #[.val (.int (own_sh p1 (16 : Int32))), .val (.int ((31 : Int32) + (-16 : Int32)))] [])) _
    refine XS.iinc X0.here hx rfl (hb hby d_jdk_33_method_47_code_40) rfl (l' := #[.val (.int (own_sh p1 (16 : Int32))), .val (.int (((31 : Int32) + (-16 : Int32)) + (-8 : Int32)))]) rfl ?_
    show Steps p.tables e below (s₁.setTop (mkF m 43 #[.val (.int (own_sh p1 (16 : Int32))), .val (.int (((31 : Int32) + (-16 : Int32)) + (-8 : Int32)))] [])) _
    refine XS.iloadN X0.here hx rfl (hb hby d_jdk_33_method_47_code_43) rfl ?_
    show Steps p.tables e below (s₁.setTop (mkF m 44 #[.val (.int (own_sh p1 (16 : Int32))), .val (.int (((31 : Int32) + (-16 : Int32)) + (-8 : Int32)))] [(.int (own_sh p1 (16 : Int32)))])) _
    refine XS.bipush X0.here hx rfl (hb hby d_jdk_33_method_47_code_44) ?_
    show Steps p.tables e below (s₁.setTop (mkF m 46 #[.val (.int (own_sh p1 (16 : Int32))), .val (.int (((31 : Int32) + (-16 : Int32)) + (-8 : Int32)))] [(.int (8 : Int32)), (.int (own_sh p1 (16 : Int32)))])) _
    refine XS.iushr X0.here hx rfl (hb hby d_jdk_33_method_47_code_46) rfl ?_
    show Steps p.tables e below (s₁.setTop (mkF m 47 #[.val (.int (own_sh p1 (16 : Int32))), .val (.int (((31 : Int32) + (-16 : Int32)) + (-8 : Int32)))] [(.int (own_sh (own_sh p1 (16 : Int32)) (8 : Int32)))])) _
    refine XS.istoreN X0.here hx rfl (hb hby d_jdk_33_method_47_code_47) rfl (l' := #[.val (.int (own_sh (own_sh p1 (16 : Int32)) (8 : Int32))), .val (.int (((31 : Int32) + (-16 : Int32)) + (-8 : Int32)))]) rfl ?_
    show Steps p.tables e below (s₁.setTop (mkF m 48 #[.val (.int (own_sh (own_sh p1 (16 : Int32)) (8 : Int32))), .val (.int (((31 : Int32) + (-16 : Int32)) + (-8 : Int32)))] [])) _
    refine XS.iloadN X0.here hx rfl (hb hby d_jdk_33_method_47_code_48) rfl ?_
    show Steps p.tables e below (s₁.setTop (mkF m 49 #[.val (.int (own_sh (own_sh p1 (16 : Int32)) (8 : Int32))), .val (.int (((31 : Int32) + (-16 : Int32)) + (-8 : Int32)))] [(.int (own_sh (own_sh p1 (16 : Int32)) (8 : Int32)))])) _
    refine XS.bipush X0.here hx rfl (hb hby d_jdk_33_method_47_code_49) ?_
    show Steps p.tables e below (s₁.setTop (mkF m 51 #[.val (.int (own_sh (own_sh p1 (16 : Int32)) (8 : Int32))), .val (.int (((31 : Int32) + (-16 : Int32)) + (-8 : Int32)))] [(.int (16 : Int32)), (.int (own_sh (own_sh p1 (16 : Int32)) (8 : Int32)))])) _
    refine XS.icmpYes X0.here hx rfl (pc0 := 51) (pc' := 61) rfl (hb hby d_jdk_33_method_47_code_51) rfl (tlt hc51).1 (by decide) (by decide) ?_
    show Steps p.tables e below (s₁.setTop (mkF m 61 #[.val (.int (own_sh (own_sh p1 (16 : Int32)) (8 : Int32))), .val (.int (((31 : Int32) + (-16 : Int32)) + (-8 : Int32)))] [])) _
    refine XS.iloadN X0.here hx rfl (hb hby d_jdk_33_method_47_code_61) rfl ?_
    show Steps p.tables e below (s₁.setTop (mkF m 62 #[.val (.int (own_sh (own_sh p1 (16 : Int32)) (8 : Int32))), .val (.int (((31 : Int32) + (-16 : Int32)) + (-8 : Int32)))] [(.int (own_sh (own_sh p1 (16 : Int32)) (8 : Int32)))])) _
    refine XS.iconst X0.here hx rfl (hb hby d_jdk_33_method_47_code_62) ?_
    show Steps p.tables e below (s₁.setTop (mkF m 63 #[.val (.int (own_sh (own_sh p1 (16 : Int32)) (8 : Int32))), .val (.int (((31 : Int32) + (-16 : Int32)) + (-8 : Int32)))] [(.int (4 : Int32)), (.int (own_sh (own_sh p1 (16 : Int32)) (8 : Int32)))])) _
    refine XS.icmpYes X0.here hx rfl (pc0 := 63) (pc' := 73) rfl (hb hby d_jdk_33_method_47_code_63) rfl (tlt hc63).1 (by decide) (by decide) ?_
    show Steps p.tables e below (s₁.setTop (mkF m 73 #[.val (.int (own_sh (own_sh p1 (16 : Int32)) (8 : Int32))), .val (.int (((31 : Int32) + (-16 : Int32)) + (-8 : Int32)))] [])) _
    refine XS.iloadN X0.here hx rfl (hb hby d_jdk_33_method_47_code_73) rfl ?_
    show Steps p.tables e below (s₁.setTop (mkF m 74 #[.val (.int (own_sh (own_sh p1 (16 : Int32)) (8 : Int32))), .val (.int (((31 : Int32) + (-16 : Int32)) + (-8 : Int32)))] [(.int (((31 : Int32) + (-16 : Int32)) + (-8 : Int32)))])) _
    refine XS.iloadN X0.here hx rfl (hb hby d_jdk_33_method_47_code_74) rfl ?_
    show Steps p.tables e below (s₁.setTop (mkF m 75 #[.val (.int (own_sh (own_sh p1 (16 : Int32)) (8 : Int32))), .val (.int (((31 : Int32) + (-16 : Int32)) + (-8 : Int32)))] [(.int (own_sh (own_sh p1 (16 : Int32)) (8 : Int32))), (.int (((31 : Int32) + (-16 : Int32)) + (-8 : Int32)))])) _
    refine XS.iconst X0.here hx rfl (hb hby d_jdk_33_method_47_code_75) ?_
    show Steps p.tables e below (s₁.setTop (mkF m 76 #[.val (.int (own_sh (own_sh p1 (16 : Int32)) (8 : Int32))), .val (.int (((31 : Int32) + (-16 : Int32)) + (-8 : Int32)))] [(.int (1 : Int32)), (.int (own_sh (own_sh p1 (16 : Int32)) (8 : Int32))), (.int (((31 : Int32) + (-16 : Int32)) + (-8 : Int32)))])) _
    refine XS.iushr X0.here hx rfl (hb hby d_jdk_33_method_47_code_76) rfl ?_
    show Steps p.tables e below (s₁.setTop (mkF m 77 #[.val (.int (own_sh (own_sh p1 (16 : Int32)) (8 : Int32))), .val (.int (((31 : Int32) + (-16 : Int32)) + (-8 : Int32)))] [(.int (own_sh (own_sh (own_sh p1 (16 : Int32)) (8 : Int32)) (1 : Int32))), (.int (((31 : Int32) + (-16 : Int32)) + (-8 : Int32)))])) _
    refine XS.isub X0.here hx rfl (hb hby d_jdk_33_method_47_code_77) rfl ?_
    show Steps p.tables e below (s₁.setTop (mkF m 78 #[.val (.int (own_sh (own_sh p1 (16 : Int32)) (8 : Int32))), .val (.int (((31 : Int32) + (-16 : Int32)) + (-8 : Int32)))] [(.int ((((31 : Int32) + (-16 : Int32)) + (-8 : Int32)) - (own_sh (own_sh (own_sh p1 (16 : Int32)) (8 : Int32)) (1 : Int32))))])) _
    exact retI X0 hx Bd.returns (hb hby d_jdk_33_method_47_code_78) hr
  · show Q_rmZ Z p1 h0 n0 _ s₁.heap _
    rw [e0]
    exact ⟨by rw [hres], N0, rfl⟩
set_option maxRecDepth 65536 in
set_option maxHeartbeats 40000000 in
theorem rmZ_tfftf (l : Launch) (Z : State) (a0 : Array Value) (hw : ∀ d ∈ tables_1, d.before a0 Z = true) (ws : List Jvm.Cond) (p1 : Int32) (h0 : Heap) (n0 : Nat) (Z0 : n0 ≤ h0.size) (hc1 : (0 : Int32) < p1) (hc22 : ¬ (p1 < (65536 : Int32))) (hc37 : ¬ ((own_sh p1 (16 : Int32)) < (256 : Int32))) (hc51 : (own_sh (own_sh p1 (16 : Int32)) (8 : Int32)) < (16 : Int32)) (hc63 : ¬ ((own_sh (own_sh p1 (16 : Int32)) (8 : Int32)) < (4 : Int32))) (hres : (own_nlz32 p1) = (((((31 : Int32) + (-16 : Int32)) + (-8 : Int32)) + (-2 : Int32)) - (own_sh (own_sh (own_sh (own_sh p1 (16 : Int32)) (8 : Int32)) (2 : Int32)) (1 : Int32)))) :
    MetFree l (⟨"java/lang/Integer", "numberOfLeadingZeros", "(I)I"⟩ : MethodName) (head1 (Jvm.Cond.code (⟨"java/lang/Integer", "numberOfLeadingZeros", "(I)I"⟩ : MethodName) jdk_33_method_47_code 2 (some .int) :: ws) ({ frames := 0, cells := 0, slots := 0, locals := 0 } : Room)) (fun a U => a = #[(.int p1)] ∧ Z.Warmed39 U.vm ∧ U.heap = h0) (fun _ _ _ _ _ => True) (fun _ U o U' => ∃ v L, o = .returned v ∧ Q_rmZ Z p1 h0 n0 v U'.heap L ∧ FrameEnd U o U' L ({ frames := 0, cells := 0, slots := 0, locals := 0 } : Room).cells ({ frames := 0, cells := 0, slots := 0, locals := 0 } : Room).slots) := by
  refine MetFree.of_bodySF (plainFor_of_name pn_2) hisR ?_
  intro p e s m args below meth c s₁ Bd hml0 hP hK
  obtain ⟨rfl, hZ, hh⟩ := hP
  have hx := Bd.exec
  have hby := Bd.bytes
  have hml : c.maxLocals = 2 := hml0
  have hown : s.vm.findClass "java/lang/Integer" = some m.cls := findClass_of_methodNamed Bd.named
  have hnm := (name_of_methodNamed Bd.named Bd.method).1
  have X0 : Stand p l e ({ frames := 0, cells := 0, slots := 0, locals := 0 } : Room) s m #[(.int p1)] below meth c s₁ [] 0 0 := Stand.of_body Bd
  have e0 : s₁.heap = h0 := by rw [← hh, Bd.state]; rfl
  have N0 := Fr.nil n0
  have pre0 : ∀ t, Steps p.tables e below (s₁.setTop (mkF m 0 #[.val (.int p1), .unset] [])) t → Steps p.tables e below (s₁.setTop (entryFrame m #[(.int p1)] 2)) t := fun t k => castTop (ef_2 m p1) k
  obtain ⟨fs, hr, hrun, hended, hW, hsame⟩ := X0.leave (v := some (.int (((((31 : Int32) + (-16 : Int32)) + (-8 : Int32)) + (-2 : Int32)) - (own_sh (own_sh (own_sh (own_sh p1 (16 : Int32)) (8 : Int32)) (2 : Int32)) (1 : Int32))))) (fun h => by rw [Bd.returns] at h; cases h)
  refine ⟨_, _, pre0 _ ?_, hrun, hended, _, _, rfl, ?_, ⟨_, rfl⟩, hW, hsame.mono (by decide) (by decide)⟩
  · show Steps p.tables e below (s₁.setTop (mkF m 0 #[.val (.int p1), .unset] [])) _
    refine XS.iloadN X0.here hx rfl (hb hby d_jdk_33_method_47_code_0) rfl ?_
    show Steps p.tables e below (s₁.setTop (mkF m 1 #[.val (.int p1), .unset] [(.int p1)])) _
    refine XS.ifYes X0.here hx rfl (pc0 := 1) (pc' := 15) rfl (hb hby d_jdk_33_method_47_code_1) rfl ((if0 _ _).trans (tlt hc1).2.2.1) (by decide) (by decide) ?_
    show Steps p.tables e below (s₁.setTop (mkF m 15 #[.val (.int p1), .unset] [])) _
    refine XS.bipush X0.here hx rfl (hb hby d_jdk_33_method_47_code_15) ?_
    show Steps p.tables e below (s₁.setTop (mkF m 17 #[.val (.int p1), .unset] [(.int (31 : Int32))])) _
    refine XS.istoreN X0.here hx rfl (hb hby d_jdk_33_method_47_code_17) rfl (l' := #[.val (.int p1), .val (.int (31 : Int32))]) rfl ?_
    show Steps p.tables e below (s₁.setTop (mkF m 18 #[.val (.int p1), .val (.int (31 : Int32))] [])) _
    refine XS.iloadN X0.here hx rfl (hb hby d_jdk_33_method_47_code_18) rfl ?_
    show Steps p.tables e below (s₁.setTop (mkF m 19 #[.val (.int p1), .val (.int (31 : Int32))] [(.int p1)])) _
    refine X0.ldcWI hx hown (mvT hZ (hw _ (List.mem_of_getElem? (i := 34) rfl))) (g := (mkF m 19 #[.val (.int p1), .val (.int (31 : Int32))] [(.int p1)])) rfl (hb hby d_jdk_33_method_47_code_19) ?_
    show Steps p.tables e below (s₁.setTop (mkF m 22 #[.val (.int p1), .val (.int (31 : Int32))] [(.int (65536 : Int32)), (.int p1)])) _
    refine XS.icmpNo X0.here hx rfl (hb hby d_jdk_33_method_47_code_22) rfl (flt hc22).1 ?_
    show Steps p.tables e below (s₁.setTop (mkF m 25 #[.val (.int p1), .val (.int (31 : Int32))] [])) _
    refine XS.iinc X0.here hx rfl (hb hby d_jdk_33_method_47_code_25) rfl (l' := #[.val (.int p1), .val (.int ((31 : Int32) + (-16 : Int32)))]) rfl ?_
    show Steps p.tables e below (s₁.setTop (mkF m 28 #[.val (.int p1), .val (.int ((31 : Int32) + (-16 : Int32)))] [])) _
    refine XS.iloadN X0.here hx rfl (hb hby d_jdk_33_method_47_code_28) rfl ?_
    show Steps p.tables e below (s₁.setTop (mkF m 29 #[.val (.int p1), .val (.int ((31 : Int32) + (-16 : Int32)))] [(.int p1)])) _
    refine XS.bipush X0.here hx rfl (hb hby d_jdk_33_method_47_code_29) ?_
    show Steps p.tables e below (s₁.setTop (mkF m 31 #[.val (.int p1), .val (.int ((31 : Int32) + (-16 : Int32)))] [(.int (16 : Int32)), (.int p1)])) _
    refine XS.iushr X0.here hx rfl (hb hby d_jdk_33_method_47_code_31) rfl ?_
    show Steps p.tables e below (s₁.setTop (mkF m 32 #[.val (.int p1), .val (.int ((31 : Int32) + (-16 : Int32)))] [(.int (own_sh p1 (16 : Int32)))])) _
    refine XS.istoreN X0.here hx rfl (hb hby d_jdk_33_method_47_code_32) rfl (l' := #[.val (.int (own_sh p1 (16 : Int32))), .val (.int ((31 : Int32) + (-16 : Int32)))]) rfl ?_
    show Steps p.tables e below (s₁.setTop (mkF m 33 #[.val (.int (own_sh p1 (16 : Int32))), .val (.int ((31 : Int32) + (-16 : Int32)))] [])) _
    refine XS.iloadN X0.here hx rfl (hb hby d_jdk_33_method_47_code_33) rfl ?_
    show Steps p.tables e below (s₁.setTop (mkF m 34 #[.val (.int (own_sh p1 (16 : Int32))), .val (.int ((31 : Int32) + (-16 : Int32)))] [(.int (own_sh p1 (16 : Int32)))])) _
    refine XS.sipush X0.here hx rfl (hb hby d_jdk_33_method_47_code_34) ?_
    show Steps p.tables e below (s₁.setTop (mkF m 37 #[.val (.int (own_sh p1 (16 : Int32))), .val (.int ((31 : Int32) + (-16 : Int32)))] [(.int (256 : Int32)), (.int (own_sh p1 (16 : Int32)))])) _
    refine XS.icmpNo X0.here hx rfl (hb hby d_jdk_33_method_47_code_37) rfl (flt hc37).1 ?_
    show Steps p.tables e below (s₁.setTop (mkF m 40 #[.val (.int (own_sh p1 (16 : Int32))), .val (.int ((31 : Int32) + (-16 : Int32)))] [])) _
    refine XS.iinc X0.here hx rfl (hb hby d_jdk_33_method_47_code_40) rfl (l' := #[.val (.int (own_sh p1 (16 : Int32))), .val (.int (((31 : Int32) + (-16 : Int32)) + (-8 : Int32)))]) rfl ?_
    show Steps p.tables e below (s₁.setTop (mkF m 43 #[.val (.int (own_sh p1 (16 : Int32))), .val (.int (((31 : Int32) + (-16 : Int32)) + (-8 : Int32)))] [])) _
    refine XS.iloadN X0.here hx rfl (hb hby d_jdk_33_method_47_code_43) rfl ?_
    show Steps p.tables e below (s₁.setTop (mkF m 44 #[.val (.int (own_sh p1 (16 : Int32))), .val (.int (((31 : Int32) + (-16 : Int32)) + (-8 : Int32)))] [(.int (own_sh p1 (16 : Int32)))])) _
    refine XS.bipush X0.here hx rfl (hb hby d_jdk_33_method_47_code_44) ?_
    show Steps p.tables e below (s₁.setTop (mkF m 46 #[.val (.int (own_sh p1 (16 : Int32))), .val (.int (((31 : Int32) + (-16 : Int32)) + (-8 : Int32)))] [(.int (8 : Int32)), (.int (own_sh p1 (16 : Int32)))])) _
    refine XS.iushr X0.here hx rfl (hb hby d_jdk_33_method_47_code_46) rfl ?_
    show Steps p.tables e below (s₁.setTop (mkF m 47 #[.val (.int (own_sh p1 (16 : Int32))), .val (.int (((31 : Int32) + (-16 : Int32)) + (-8 : Int32)))] [(.int (own_sh (own_sh p1 (16 : Int32)) (8 : Int32)))])) _
    refine XS.istoreN X0.here hx rfl (hb hby d_jdk_33_method_47_code_47) rfl (l' := #[.val (.int (own_sh (own_sh p1 (16 : Int32)) (8 : Int32))), .val (.int (((31 : Int32) + (-16 : Int32)) + (-8 : Int32)))]) rfl ?_
    show Steps p.tables e below (s₁.setTop (mkF m 48 #[.val (.int (own_sh (own_sh p1 (16 : Int32)) (8 : Int32))), .val (.int (((31 : Int32) + (-16 : Int32)) + (-8 : Int32)))] [])) _
    refine XS.iloadN X0.here hx rfl (hb hby d_jdk_33_method_47_code_48) rfl ?_
    show Steps p.tables e below (s₁.setTop (mkF m 49 #[.val (.int (own_sh (own_sh p1 (16 : Int32)) (8 : Int32))), .val (.int (((31 : Int32) + (-16 : Int32)) + (-8 : Int32)))] [(.int (own_sh (own_sh p1 (16 : Int32)) (8 : Int32)))])) _
    refine XS.bipush X0.here hx rfl (hb hby d_jdk_33_method_47_code_49) ?_
    show Steps p.tables e below (s₁.setTop (mkF m 51 #[.val (.int (own_sh (own_sh p1 (16 : Int32)) (8 : Int32))), .val (.int (((31 : Int32) + (-16 : Int32)) + (-8 : Int32)))] [(.int (16 : Int32)), (.int (own_sh (own_sh p1 (16 : Int32)) (8 : Int32)))])) _
    refine XS.icmpYes X0.here hx rfl (pc0 := 51) (pc' := 61) rfl (hb hby d_jdk_33_method_47_code_51) rfl (tlt hc51).1 (by decide) (by decide) ?_
    show Steps p.tables e below (s₁.setTop (mkF m 61 #[.val (.int (own_sh (own_sh p1 (16 : Int32)) (8 : Int32))), .val (.int (((31 : Int32) + (-16 : Int32)) + (-8 : Int32)))] [])) _
    refine XS.iloadN X0.here hx rfl (hb hby d_jdk_33_method_47_code_61) rfl ?_
    show Steps p.tables e below (s₁.setTop (mkF m 62 #[.val (.int (own_sh (own_sh p1 (16 : Int32)) (8 : Int32))), .val (.int (((31 : Int32) + (-16 : Int32)) + (-8 : Int32)))] [(.int (own_sh (own_sh p1 (16 : Int32)) (8 : Int32)))])) _
    refine XS.iconst X0.here hx rfl (hb hby d_jdk_33_method_47_code_62) ?_
    show Steps p.tables e below (s₁.setTop (mkF m 63 #[.val (.int (own_sh (own_sh p1 (16 : Int32)) (8 : Int32))), .val (.int (((31 : Int32) + (-16 : Int32)) + (-8 : Int32)))] [(.int (4 : Int32)), (.int (own_sh (own_sh p1 (16 : Int32)) (8 : Int32)))])) _
    refine XS.icmpNo X0.here hx rfl (hb hby d_jdk_33_method_47_code_63) rfl (flt hc63).1 ?_
    show Steps p.tables e below (s₁.setTop (mkF m 66 #[.val (.int (own_sh (own_sh p1 (16 : Int32)) (8 : Int32))), .val (.int (((31 : Int32) + (-16 : Int32)) + (-8 : Int32)))] [])) _
    refine XS.iinc X0.here hx rfl (hb hby d_jdk_33_method_47_code_66) rfl (l' := #[.val (.int (own_sh (own_sh p1 (16 : Int32)) (8 : Int32))), .val (.int ((((31 : Int32) + (-16 : Int32)) + (-8 : Int32)) + (-2 : Int32)))]) rfl ?_
    show Steps p.tables e below (s₁.setTop (mkF m 69 #[.val (.int (own_sh (own_sh p1 (16 : Int32)) (8 : Int32))), .val (.int ((((31 : Int32) + (-16 : Int32)) + (-8 : Int32)) + (-2 : Int32)))] [])) _
    refine XS.iloadN X0.here hx rfl (hb hby d_jdk_33_method_47_code_69) rfl ?_
    show Steps p.tables e below (s₁.setTop (mkF m 70 #[.val (.int (own_sh (own_sh p1 (16 : Int32)) (8 : Int32))), .val (.int ((((31 : Int32) + (-16 : Int32)) + (-8 : Int32)) + (-2 : Int32)))] [(.int (own_sh (own_sh p1 (16 : Int32)) (8 : Int32)))])) _
    refine XS.iconst X0.here hx rfl (hb hby d_jdk_33_method_47_code_70) ?_
    show Steps p.tables e below (s₁.setTop (mkF m 71 #[.val (.int (own_sh (own_sh p1 (16 : Int32)) (8 : Int32))), .val (.int ((((31 : Int32) + (-16 : Int32)) + (-8 : Int32)) + (-2 : Int32)))] [(.int (2 : Int32)), (.int (own_sh (own_sh p1 (16 : Int32)) (8 : Int32)))])) _
    refine XS.iushr X0.here hx rfl (hb hby d_jdk_33_method_47_code_71) rfl ?_
    show Steps p.tables e below (s₁.setTop (mkF m 72 #[.val (.int (own_sh (own_sh p1 (16 : Int32)) (8 : Int32))), .val (.int ((((31 : Int32) + (-16 : Int32)) + (-8 : Int32)) + (-2 : Int32)))] [(.int (own_sh (own_sh (own_sh p1 (16 : Int32)) (8 : Int32)) (2 : Int32)))])) _
    refine XS.istoreN X0.here hx rfl (hb hby d_jdk_33_method_47_code_72) rfl (l' := #[.val (.int (own_sh (own_sh (own_sh p1 (16 : Int32)) (8 : Int32)) (2 : Int32))), .val (.int ((((31 : Int32) + (-16 : Int32)) + (-8 : Int32)) + (-2 : Int32)))]) rfl ?_
    show Steps p.tables e below (s₁.setTop (mkF m 73 #[.val (.int (own_sh (own_sh (own_sh p1 (16 : Int32)) (8 : Int32)) (2 : Int32))), .val (.int ((((31 : Int32) + (-16 : Int32)) + (-8 : Int32)) + (-2 : Int32)))] [])) _
    refine XS.iloadN X0.here hx rfl (hb hby d_jdk_33_method_47_code_73) rfl ?_
    show Steps p.tables e below (s₁.setTop (mkF m 74 #[.val (.int (own_sh (own_sh (own_sh p1 (16 : Int32)) (8 : Int32)) (2 : Int32))), .val (.int ((((31 : Int32) + (-16 : Int32)) + (-8 : Int32)) + (-2 : Int32)))] [(.int ((((31 : Int32) + (-16 : Int32)) + (-8 : Int32)) + (-2 : Int32)))])) _
    refine XS.iloadN X0.here hx rfl (hb hby d_jdk_33_method_47_code_74) rfl ?_
    show Steps p.tables e below (s₁.setTop (mkF m 75 #[.val (.int (own_sh (own_sh (own_sh p1 (16 : Int32)) (8 : Int32)) (2 : Int32))), .val (.int ((((31 : Int32) + (-16 : Int32)) + (-8 : Int32)) + (-2 : Int32)))] [(.int (own_sh (own_sh (own_sh p1 (16 : Int32)) (8 : Int32)) (2 : Int32))), (.int ((((31 : Int32) + (-16 : Int32)) + (-8 : Int32)) + (-2 : Int32)))])) _
    refine XS.iconst X0.here hx rfl (hb hby d_jdk_33_method_47_code_75) ?_
    show Steps p.tables e below (s₁.setTop (mkF m 76 #[.val (.int (own_sh (own_sh (own_sh p1 (16 : Int32)) (8 : Int32)) (2 : Int32))), .val (.int ((((31 : Int32) + (-16 : Int32)) + (-8 : Int32)) + (-2 : Int32)))] [(.int (1 : Int32)), (.int (own_sh (own_sh (own_sh p1 (16 : Int32)) (8 : Int32)) (2 : Int32))), (.int ((((31 : Int32) + (-16 : Int32)) + (-8 : Int32)) + (-2 : Int32)))])) _
    refine XS.iushr X0.here hx rfl (hb hby d_jdk_33_method_47_code_76) rfl ?_
    show Steps p.tables e below (s₁.setTop (mkF m 77 #[.val (.int (own_sh (own_sh (own_sh p1 (16 : Int32)) (8 : Int32)) (2 : Int32))), .val (.int ((((31 : Int32) + (-16 : Int32)) + (-8 : Int32)) + (-2 : Int32)))] [(.int (own_sh (own_sh (own_sh (own_sh p1 (16 : Int32)) (8 : Int32)) (2 : Int32)) (1 : Int32))), (.int ((((31 : Int32) + (-16 : Int32)) + (-8 : Int32)) + (-2 : Int32)))])) _
    refine XS.isub X0.here hx rfl (hb hby d_jdk_33_method_47_code_77) rfl ?_
    show Steps p.tables e below (s₁.setTop (mkF m 78 #[.val (.int (own_sh (own_sh (own_sh p1 (16 : Int32)) (8 : Int32)) (2 : Int32))), .val (.int ((((31 : Int32) + (-16 : Int32)) + (-8 : Int32)) + (-2 : Int32)))] [(.int (((((31 : Int32) + (-16 : Int32)) + (-8 : Int32)) + (-2 : Int32)) - (own_sh (own_sh (own_sh (own_sh p1 (16 : Int32)) (8 : Int32)) (2 : Int32)) (1 : Int32))))])) _
    exact retI X0 hx Bd.returns (hb hby d_jdk_33_method_47_code_78) hr
  · show Q_rmZ Z p1 h0 n0 _ s₁.heap _
    rw [e0]
    exact ⟨by rw [hres], N0, rfl⟩
set_option maxRecDepth 65536 in
set_option maxHeartbeats 40000000 in
theorem rmZ_tffft (l : Launch) (Z : State) (a0 : Array Value) (hw : ∀ d ∈ tables_1, d.before a0 Z = true) (ws : List Jvm.Cond) (p1 : Int32) (h0 : Heap) (n0 : Nat) (Z0 : n0 ≤ h0.size) (hc1 : (0 : Int32) < p1) (hc22 : ¬ (p1 < (65536 : Int32))) (hc37 : ¬ ((own_sh p1 (16 : Int32)) < (256 : Int32))) (hc51 : ¬ ((own_sh (own_sh p1 (16 : Int32)) (8 : Int32)) < (16 : Int32))) (hc63 : (own_sh (own_sh (own_sh p1 (16 : Int32)) (8 : Int32)) (4 : Int32)) < (4 : Int32)) (hres : (own_nlz32 p1) = (((((31 : Int32) + (-16 : Int32)) + (-8 : Int32)) + (-4 : Int32)) - (own_sh (own_sh (own_sh (own_sh p1 (16 : Int32)) (8 : Int32)) (4 : Int32)) (1 : Int32)))) :
    MetFree l (⟨"java/lang/Integer", "numberOfLeadingZeros", "(I)I"⟩ : MethodName) (head1 (Jvm.Cond.code (⟨"java/lang/Integer", "numberOfLeadingZeros", "(I)I"⟩ : MethodName) jdk_33_method_47_code 2 (some .int) :: ws) ({ frames := 0, cells := 0, slots := 0, locals := 0 } : Room)) (fun a U => a = #[(.int p1)] ∧ Z.Warmed39 U.vm ∧ U.heap = h0) (fun _ _ _ _ _ => True) (fun _ U o U' => ∃ v L, o = .returned v ∧ Q_rmZ Z p1 h0 n0 v U'.heap L ∧ FrameEnd U o U' L ({ frames := 0, cells := 0, slots := 0, locals := 0 } : Room).cells ({ frames := 0, cells := 0, slots := 0, locals := 0 } : Room).slots) := by
  refine MetFree.of_bodySF (plainFor_of_name pn_2) hisR ?_
  intro p e s m args below meth c s₁ Bd hml0 hP hK
  obtain ⟨rfl, hZ, hh⟩ := hP
  have hx := Bd.exec
  have hby := Bd.bytes
  have hml : c.maxLocals = 2 := hml0
  have hown : s.vm.findClass "java/lang/Integer" = some m.cls := findClass_of_methodNamed Bd.named
  have hnm := (name_of_methodNamed Bd.named Bd.method).1
  have X0 : Stand p l e ({ frames := 0, cells := 0, slots := 0, locals := 0 } : Room) s m #[(.int p1)] below meth c s₁ [] 0 0 := Stand.of_body Bd
  have e0 : s₁.heap = h0 := by rw [← hh, Bd.state]; rfl
  have N0 := Fr.nil n0
  have pre0 : ∀ t, Steps p.tables e below (s₁.setTop (mkF m 0 #[.val (.int p1), .unset] [])) t → Steps p.tables e below (s₁.setTop (entryFrame m #[(.int p1)] 2)) t := fun t k => castTop (ef_2 m p1) k
  obtain ⟨fs, hr, hrun, hended, hW, hsame⟩ := X0.leave (v := some (.int (((((31 : Int32) + (-16 : Int32)) + (-8 : Int32)) + (-4 : Int32)) - (own_sh (own_sh (own_sh (own_sh p1 (16 : Int32)) (8 : Int32)) (4 : Int32)) (1 : Int32))))) (fun h => by rw [Bd.returns] at h; cases h)
  refine ⟨_, _, pre0 _ ?_, hrun, hended, _, _, rfl, ?_, ⟨_, rfl⟩, hW, hsame.mono (by decide) (by decide)⟩
  · show Steps p.tables e below (s₁.setTop (mkF m 0 #[.val (.int p1), .unset] [])) _
    refine XS.iloadN X0.here hx rfl (hb hby d_jdk_33_method_47_code_0) rfl ?_
    show Steps p.tables e below (s₁.setTop (mkF m 1 #[.val (.int p1), .unset] [(.int p1)])) _
    refine XS.ifYes X0.here hx rfl (pc0 := 1) (pc' := 15) rfl (hb hby d_jdk_33_method_47_code_1) rfl ((if0 _ _).trans (tlt hc1).2.2.1) (by decide) (by decide) ?_
    show Steps p.tables e below (s₁.setTop (mkF m 15 #[.val (.int p1), .unset] [])) _
    refine XS.bipush X0.here hx rfl (hb hby d_jdk_33_method_47_code_15) ?_
    show Steps p.tables e below (s₁.setTop (mkF m 17 #[.val (.int p1), .unset] [(.int (31 : Int32))])) _
    refine XS.istoreN X0.here hx rfl (hb hby d_jdk_33_method_47_code_17) rfl (l' := #[.val (.int p1), .val (.int (31 : Int32))]) rfl ?_
    show Steps p.tables e below (s₁.setTop (mkF m 18 #[.val (.int p1), .val (.int (31 : Int32))] [])) _
    refine XS.iloadN X0.here hx rfl (hb hby d_jdk_33_method_47_code_18) rfl ?_
    show Steps p.tables e below (s₁.setTop (mkF m 19 #[.val (.int p1), .val (.int (31 : Int32))] [(.int p1)])) _
    refine X0.ldcWI hx hown (mvT hZ (hw _ (List.mem_of_getElem? (i := 34) rfl))) (g := (mkF m 19 #[.val (.int p1), .val (.int (31 : Int32))] [(.int p1)])) rfl (hb hby d_jdk_33_method_47_code_19) ?_
    show Steps p.tables e below (s₁.setTop (mkF m 22 #[.val (.int p1), .val (.int (31 : Int32))] [(.int (65536 : Int32)), (.int p1)])) _
    refine XS.icmpNo X0.here hx rfl (hb hby d_jdk_33_method_47_code_22) rfl (flt hc22).1 ?_
    show Steps p.tables e below (s₁.setTop (mkF m 25 #[.val (.int p1), .val (.int (31 : Int32))] [])) _
    refine XS.iinc X0.here hx rfl (hb hby d_jdk_33_method_47_code_25) rfl (l' := #[.val (.int p1), .val (.int ((31 : Int32) + (-16 : Int32)))]) rfl ?_
    show Steps p.tables e below (s₁.setTop (mkF m 28 #[.val (.int p1), .val (.int ((31 : Int32) + (-16 : Int32)))] [])) _
    refine XS.iloadN X0.here hx rfl (hb hby d_jdk_33_method_47_code_28) rfl ?_
    show Steps p.tables e below (s₁.setTop (mkF m 29 #[.val (.int p1), .val (.int ((31 : Int32) + (-16 : Int32)))] [(.int p1)])) _
    refine XS.bipush X0.here hx rfl (hb hby d_jdk_33_method_47_code_29) ?_
    show Steps p.tables e below (s₁.setTop (mkF m 31 #[.val (.int p1), .val (.int ((31 : Int32) + (-16 : Int32)))] [(.int (16 : Int32)), (.int p1)])) _
    refine XS.iushr X0.here hx rfl (hb hby d_jdk_33_method_47_code_31) rfl ?_
    show Steps p.tables e below (s₁.setTop (mkF m 32 #[.val (.int p1), .val (.int ((31 : Int32) + (-16 : Int32)))] [(.int (own_sh p1 (16 : Int32)))])) _
    refine XS.istoreN X0.here hx rfl (hb hby d_jdk_33_method_47_code_32) rfl (l' := #[.val (.int (own_sh p1 (16 : Int32))), .val (.int ((31 : Int32) + (-16 : Int32)))]) rfl ?_
    show Steps p.tables e below (s₁.setTop (mkF m 33 #[.val (.int (own_sh p1 (16 : Int32))), .val (.int ((31 : Int32) + (-16 : Int32)))] [])) _
    refine XS.iloadN X0.here hx rfl (hb hby d_jdk_33_method_47_code_33) rfl ?_
    show Steps p.tables e below (s₁.setTop (mkF m 34 #[.val (.int (own_sh p1 (16 : Int32))), .val (.int ((31 : Int32) + (-16 : Int32)))] [(.int (own_sh p1 (16 : Int32)))])) _
    refine XS.sipush X0.here hx rfl (hb hby d_jdk_33_method_47_code_34) ?_
    show Steps p.tables e below (s₁.setTop (mkF m 37 #[.val (.int (own_sh p1 (16 : Int32))), .val (.int ((31 : Int32) + (-16 : Int32)))] [(.int (256 : Int32)), (.int (own_sh p1 (16 : Int32)))])) _
    refine XS.icmpNo X0.here hx rfl (hb hby d_jdk_33_method_47_code_37) rfl (flt hc37).1 ?_
    show Steps p.tables e below (s₁.setTop (mkF m 40 #[.val (.int (own_sh p1 (16 : Int32))), .val (.int ((31 : Int32) + (-16 : Int32)))] [])) _
    refine XS.iinc X0.here hx rfl (hb hby d_jdk_33_method_47_code_40) rfl (l' := #[.val (.int (own_sh p1 (16 : Int32))), .val (.int (((31 : Int32) + (-16 : Int32)) + (-8 : Int32)))]) rfl ?_
    show Steps p.tables e below (s₁.setTop (mkF m 43 #[.val (.int (own_sh p1 (16 : Int32))), .val (.int (((31 : Int32) + (-16 : Int32)) + (-8 : Int32)))] [])) _
    refine XS.iloadN X0.here hx rfl (hb hby d_jdk_33_method_47_code_43) rfl ?_
    show Steps p.tables e below (s₁.setTop (mkF m 44 #[.val (.int (own_sh p1 (16 : Int32))), .val (.int (((31 : Int32) + (-16 : Int32)) + (-8 : Int32)))] [(.int (own_sh p1 (16 : Int32)))])) _
    refine XS.bipush X0.here hx rfl (hb hby d_jdk_33_method_47_code_44) ?_
    show Steps p.tables e below (s₁.setTop (mkF m 46 #[.val (.int (own_sh p1 (16 : Int32))), .val (.int (((31 : Int32) + (-16 : Int32)) + (-8 : Int32)))] [(.int (8 : Int32)), (.int (own_sh p1 (16 : Int32)))])) _
    refine XS.iushr X0.here hx rfl (hb hby d_jdk_33_method_47_code_46) rfl ?_
    show Steps p.tables e below (s₁.setTop (mkF m 47 #[.val (.int (own_sh p1 (16 : Int32))), .val (.int (((31 : Int32) + (-16 : Int32)) + (-8 : Int32)))] [(.int (own_sh (own_sh p1 (16 : Int32)) (8 : Int32)))])) _
    refine XS.istoreN X0.here hx rfl (hb hby d_jdk_33_method_47_code_47) rfl (l' := #[.val (.int (own_sh (own_sh p1 (16 : Int32)) (8 : Int32))), .val (.int (((31 : Int32) + (-16 : Int32)) + (-8 : Int32)))]) rfl ?_
    show Steps p.tables e below (s₁.setTop (mkF m 48 #[.val (.int (own_sh (own_sh p1 (16 : Int32)) (8 : Int32))), .val (.int (((31 : Int32) + (-16 : Int32)) + (-8 : Int32)))] [])) _
    refine XS.iloadN X0.here hx rfl (hb hby d_jdk_33_method_47_code_48) rfl ?_
    show Steps p.tables e below (s₁.setTop (mkF m 49 #[.val (.int (own_sh (own_sh p1 (16 : Int32)) (8 : Int32))), .val (.int (((31 : Int32) + (-16 : Int32)) + (-8 : Int32)))] [(.int (own_sh (own_sh p1 (16 : Int32)) (8 : Int32)))])) _
    refine XS.bipush X0.here hx rfl (hb hby d_jdk_33_method_47_code_49) ?_
    show Steps p.tables e below (s₁.setTop (mkF m 51 #[.val (.int (own_sh (own_sh p1 (16 : Int32)) (8 : Int32))), .val (.int (((31 : Int32) + (-16 : Int32)) + (-8 : Int32)))] [(.int (16 : Int32)), (.int (own_sh (own_sh p1 (16 : Int32)) (8 : Int32)))])) _
    refine XS.icmpNo X0.here hx rfl (hb hby d_jdk_33_method_47_code_51) rfl (flt hc51).1 ?_
    show Steps p.tables e below (s₁.setTop (mkF m 54 #[.val (.int (own_sh (own_sh p1 (16 : Int32)) (8 : Int32))), .val (.int (((31 : Int32) + (-16 : Int32)) + (-8 : Int32)))] [])) _
    refine XS.iinc X0.here hx rfl (hb hby d_jdk_33_method_47_code_54) rfl (l' := #[.val (.int (own_sh (own_sh p1 (16 : Int32)) (8 : Int32))), .val (.int ((((31 : Int32) + (-16 : Int32)) + (-8 : Int32)) + (-4 : Int32)))]) rfl ?_
    show Steps p.tables e below (s₁.setTop (mkF m 57 #[.val (.int (own_sh (own_sh p1 (16 : Int32)) (8 : Int32))), .val (.int ((((31 : Int32) + (-16 : Int32)) + (-8 : Int32)) + (-4 : Int32)))] [])) _
    refine XS.iloadN X0.here hx rfl (hb hby d_jdk_33_method_47_code_57) rfl ?_
    show Steps p.tables e below (s₁.setTop (mkF m 58 #[.val (.int (own_sh (own_sh p1 (16 : Int32)) (8 : Int32))), .val (.int ((((31 : Int32) + (-16 : Int32)) + (-8 : Int32)) + (-4 : Int32)))] [(.int (own_sh (own_sh p1 (16 : Int32)) (8 : Int32)))])) _
    refine XS.iconst X0.here hx rfl (hb hby d_jdk_33_method_47_code_58) ?_
    show Steps p.tables e below (s₁.setTop (mkF m 59 #[.val (.int (own_sh (own_sh p1 (16 : Int32)) (8 : Int32))), .val (.int ((((31 : Int32) + (-16 : Int32)) + (-8 : Int32)) + (-4 : Int32)))] [(.int (4 : Int32)), (.int (own_sh (own_sh p1 (16 : Int32)) (8 : Int32)))])) _
    refine XS.iushr X0.here hx rfl (hb hby d_jdk_33_method_47_code_59) rfl ?_
    show Steps p.tables e below (s₁.setTop (mkF m 60 #[.val (.int (own_sh (own_sh p1 (16 : Int32)) (8 : Int32))), .val (.int ((((31 : Int32) + (-16 : Int32)) + (-8 : Int32)) + (-4 : Int32)))] [(.int (own_sh (own_sh (own_sh p1 (16 : Int32)) (8 : Int32)) (4 : Int32)))])) _
    refine XS.istoreN X0.here hx rfl (hb hby d_jdk_33_method_47_code_60) rfl (l' := #[.val (.int (own_sh (own_sh (own_sh p1 (16 : Int32)) (8 : Int32)) (4 : Int32))), .val (.int ((((31 : Int32) + (-16 : Int32)) + (-8 : Int32)) + (-4 : Int32)))]) rfl ?_
    show Steps p.tables e below (s₁.setTop (mkF m 61 #[.val (.int (own_sh (own_sh (own_sh p1 (16 : Int32)) (8 : Int32)) (4 : Int32))), .val (.int ((((31 : Int32) + (-16 : Int32)) + (-8 : Int32)) + (-4 : Int32)))] [])) _
    refine XS.iloadN X0.here hx rfl (hb hby d_jdk_33_method_47_code_61) rfl ?_
    show Steps p.tables e below (s₁.setTop (mkF m 62 #[.val (.int (own_sh (own_sh (own_sh p1 (16 : Int32)) (8 : Int32)) (4 : Int32))), .val (.int ((((31 : Int32) + (-16 : Int32)) + (-8 : Int32)) + (-4 : Int32)))] [(.int (own_sh (own_sh (own_sh p1 (16 : Int32)) (8 : Int32)) (4 : Int32)))])) _
    refine XS.iconst X0.here hx rfl (hb hby d_jdk_33_method_47_code_62) ?_
    show Steps p.tables e below (s₁.setTop (mkF m 63 #[.val (.int (own_sh (own_sh (own_sh p1 (16 : Int32)) (8 : Int32)) (4 : Int32))), .val (.int ((((31 : Int32) + (-16 : Int32)) + (-8 : Int32)) + (-4 : Int32)))] [(.int (4 : Int32)), (.int (own_sh (own_sh (own_sh p1 (16 : Int32)) (8 : Int32)) (4 : Int32)))])) _
    refine XS.icmpYes X0.here hx rfl (pc0 := 63) (pc' := 73) rfl (hb hby d_jdk_33_method_47_code_63) rfl (tlt hc63).1 (by decide) (by decide) ?_
    show Steps p.tables e below (s₁.setTop (mkF m 73 #[.val (.int (own_sh (own_sh (own_sh p1 (16 : Int32)) (8 : Int32)) (4 : Int32))), .val (.int ((((31 : Int32) + (-16 : Int32)) + (-8 : Int32)) + (-4 : Int32)))] [])) _
    refine XS.iloadN X0.here hx rfl (hb hby d_jdk_33_method_47_code_73) rfl ?_
    show Steps p.tables e below (s₁.setTop (mkF m 74 #[.val (.int (own_sh (own_sh (own_sh p1 (16 : Int32)) (8 : Int32)) (4 : Int32))), .val (.int ((((31 : Int32) + (-16 : Int32)) + (-8 : Int32)) + (-4 : Int32)))] [(.int ((((31 : Int32) + (-16 : Int32)) + (-8 : Int32)) + (-4 : Int32)))])) _
    refine XS.iloadN X0.here hx rfl (hb hby d_jdk_33_method_47_code_74) rfl ?_
    show Steps p.tables e below (s₁.setTop (mkF m 75 #[.val (.int (own_sh (own_sh (own_sh p1 (16 : Int32)) (8 : Int32)) (4 : Int32))), .val (.int ((((31 : Int32) + (-16 : Int32)) + (-8 : Int32)) + (-4 : Int32)))] [(.int (own_sh (own_sh (own_sh p1 (16 : Int32)) (8 : Int32)) (4 : Int32))), (.int ((((31 : Int32) + (-16 : Int32)) + (-8 : Int32)) + (-4 : Int32)))])) _
    refine XS.iconst X0.here hx rfl (hb hby d_jdk_33_method_47_code_75) ?_
    show Steps p.tables e below (s₁.setTop (mkF m 76 #[.val (.int (own_sh (own_sh (own_sh p1 (16 : Int32)) (8 : Int32)) (4 : Int32))), .val (.int ((((31 : Int32) + (-16 : Int32)) + (-8 : Int32)) + (-4 : Int32)))] [(.int (1 : Int32)), (.int (own_sh (own_sh (own_sh p1 (16 : Int32)) (8 : Int32)) (4 : Int32))), (.int ((((31 : Int32) + (-16 : Int32)) + (-8 : Int32)) + (-4 : Int32)))])) _
    refine XS.iushr X0.here hx rfl (hb hby d_jdk_33_method_47_code_76) rfl ?_
    show Steps p.tables e below (s₁.setTop (mkF m 77 #[.val (.int (own_sh (own_sh (own_sh p1 (16 : Int32)) (8 : Int32)) (4 : Int32))), .val (.int ((((31 : Int32) + (-16 : Int32)) + (-8 : Int32)) + (-4 : Int32)))] [(.int (own_sh (own_sh (own_sh (own_sh p1 (16 : Int32)) (8 : Int32)) (4 : Int32)) (1 : Int32))), (.int ((((31 : Int32) + (-16 : Int32)) + (-8 : Int32)) + (-4 : Int32)))])) _
    refine XS.isub X0.here hx rfl (hb hby d_jdk_33_method_47_code_77) rfl ?_
    show Steps p.tables e below (s₁.setTop (mkF m 78 #[.val (.int (own_sh (own_sh (own_sh p1 (16 : Int32)) (8 : Int32)) (4 : Int32))), .val (.int ((((31 : Int32) + (-16 : Int32)) + (-8 : Int32)) + (-4 : Int32)))] [(.int (((((31 : Int32) + (-16 : Int32)) + (-8 : Int32)) + (-4 : Int32)) - (own_sh (own_sh (own_sh (own_sh p1 (16 : Int32)) (8 : Int32)) (4 : Int32)) (1 : Int32))))])) _
    exact retI X0 hx Bd.returns (hb hby d_jdk_33_method_47_code_78) hr
  · show Q_rmZ Z p1 h0 n0 _ s₁.heap _
    rw [e0]
    exact ⟨by rw [hres], N0, rfl⟩
set_option maxRecDepth 65536 in
set_option maxHeartbeats 40000000 in
theorem rmZ_tffff (l : Launch) (Z : State) (a0 : Array Value) (hw : ∀ d ∈ tables_1, d.before a0 Z = true) (ws : List Jvm.Cond) (p1 : Int32) (h0 : Heap) (n0 : Nat) (Z0 : n0 ≤ h0.size) (hc1 : (0 : Int32) < p1) (hc22 : ¬ (p1 < (65536 : Int32))) (hc37 : ¬ ((own_sh p1 (16 : Int32)) < (256 : Int32))) (hc51 : ¬ ((own_sh (own_sh p1 (16 : Int32)) (8 : Int32)) < (16 : Int32))) (hc63 : ¬ ((own_sh (own_sh (own_sh p1 (16 : Int32)) (8 : Int32)) (4 : Int32)) < (4 : Int32))) (hres : (own_nlz32 p1) = ((((((31 : Int32) + (-16 : Int32)) + (-8 : Int32)) + (-4 : Int32)) + (-2 : Int32)) - (own_sh (own_sh (own_sh (own_sh (own_sh p1 (16 : Int32)) (8 : Int32)) (4 : Int32)) (2 : Int32)) (1 : Int32)))) :
    MetFree l (⟨"java/lang/Integer", "numberOfLeadingZeros", "(I)I"⟩ : MethodName) (head1 (Jvm.Cond.code (⟨"java/lang/Integer", "numberOfLeadingZeros", "(I)I"⟩ : MethodName) jdk_33_method_47_code 2 (some .int) :: ws) ({ frames := 0, cells := 0, slots := 0, locals := 0 } : Room)) (fun a U => a = #[(.int p1)] ∧ Z.Warmed39 U.vm ∧ U.heap = h0) (fun _ _ _ _ _ => True) (fun _ U o U' => ∃ v L, o = .returned v ∧ Q_rmZ Z p1 h0 n0 v U'.heap L ∧ FrameEnd U o U' L ({ frames := 0, cells := 0, slots := 0, locals := 0 } : Room).cells ({ frames := 0, cells := 0, slots := 0, locals := 0 } : Room).slots) := by
  refine MetFree.of_bodySF (plainFor_of_name pn_2) hisR ?_
  intro p e s m args below meth c s₁ Bd hml0 hP hK
  obtain ⟨rfl, hZ, hh⟩ := hP
  have hx := Bd.exec
  have hby := Bd.bytes
  have hml : c.maxLocals = 2 := hml0
  have hown : s.vm.findClass "java/lang/Integer" = some m.cls := findClass_of_methodNamed Bd.named
  have hnm := (name_of_methodNamed Bd.named Bd.method).1
  have X0 : Stand p l e ({ frames := 0, cells := 0, slots := 0, locals := 0 } : Room) s m #[(.int p1)] below meth c s₁ [] 0 0 := Stand.of_body Bd
  have e0 : s₁.heap = h0 := by rw [← hh, Bd.state]; rfl
  have N0 := Fr.nil n0
  have pre0 : ∀ t, Steps p.tables e below (s₁.setTop (mkF m 0 #[.val (.int p1), .unset] [])) t → Steps p.tables e below (s₁.setTop (entryFrame m #[(.int p1)] 2)) t := fun t k => castTop (ef_2 m p1) k
  obtain ⟨fs, hr, hrun, hended, hW, hsame⟩ := X0.leave (v := some (.int ((((((31 : Int32) + (-16 : Int32)) + (-8 : Int32)) + (-4 : Int32)) + (-2 : Int32)) - (own_sh (own_sh (own_sh (own_sh (own_sh p1 (16 : Int32)) (8 : Int32)) (4 : Int32)) (2 : Int32)) (1 : Int32))))) (fun h => by rw [Bd.returns] at h; cases h)
  refine ⟨_, _, pre0 _ ?_, hrun, hended, _, _, rfl, ?_, ⟨_, rfl⟩, hW, hsame.mono (by decide) (by decide)⟩
  · show Steps p.tables e below (s₁.setTop (mkF m 0 #[.val (.int p1), .unset] [])) _
    refine XS.iloadN X0.here hx rfl (hb hby d_jdk_33_method_47_code_0) rfl ?_
    show Steps p.tables e below (s₁.setTop (mkF m 1 #[.val (.int p1), .unset] [(.int p1)])) _
    refine XS.ifYes X0.here hx rfl (pc0 := 1) (pc' := 15) rfl (hb hby d_jdk_33_method_47_code_1) rfl ((if0 _ _).trans (tlt hc1).2.2.1) (by decide) (by decide) ?_
    show Steps p.tables e below (s₁.setTop (mkF m 15 #[.val (.int p1), .unset] [])) _
    refine XS.bipush X0.here hx rfl (hb hby d_jdk_33_method_47_code_15) ?_
    show Steps p.tables e below (s₁.setTop (mkF m 17 #[.val (.int p1), .unset] [(.int (31 : Int32))])) _
    refine XS.istoreN X0.here hx rfl (hb hby d_jdk_33_method_47_code_17) rfl (l' := #[.val (.int p1), .val (.int (31 : Int32))]) rfl ?_
    show Steps p.tables e below (s₁.setTop (mkF m 18 #[.val (.int p1), .val (.int (31 : Int32))] [])) _
    refine XS.iloadN X0.here hx rfl (hb hby d_jdk_33_method_47_code_18) rfl ?_
    show Steps p.tables e below (s₁.setTop (mkF m 19 #[.val (.int p1), .val (.int (31 : Int32))] [(.int p1)])) _
    refine X0.ldcWI hx hown (mvT hZ (hw _ (List.mem_of_getElem? (i := 34) rfl))) (g := (mkF m 19 #[.val (.int p1), .val (.int (31 : Int32))] [(.int p1)])) rfl (hb hby d_jdk_33_method_47_code_19) ?_
    show Steps p.tables e below (s₁.setTop (mkF m 22 #[.val (.int p1), .val (.int (31 : Int32))] [(.int (65536 : Int32)), (.int p1)])) _
    refine XS.icmpNo X0.here hx rfl (hb hby d_jdk_33_method_47_code_22) rfl (flt hc22).1 ?_
    show Steps p.tables e below (s₁.setTop (mkF m 25 #[.val (.int p1), .val (.int (31 : Int32))] [])) _
    refine XS.iinc X0.here hx rfl (hb hby d_jdk_33_method_47_code_25) rfl (l' := #[.val (.int p1), .val (.int ((31 : Int32) + (-16 : Int32)))]) rfl ?_
    show Steps p.tables e below (s₁.setTop (mkF m 28 #[.val (.int p1), .val (.int ((31 : Int32) + (-16 : Int32)))] [])) _
    refine XS.iloadN X0.here hx rfl (hb hby d_jdk_33_method_47_code_28) rfl ?_
    show Steps p.tables e below (s₁.setTop (mkF m 29 #[.val (.int p1), .val (.int ((31 : Int32) + (-16 : Int32)))] [(.int p1)])) _
    refine XS.bipush X0.here hx rfl (hb hby d_jdk_33_method_47_code_29) ?_
    show Steps p.tables e below (s₁.setTop (mkF m 31 #[.val (.int p1), .val (.int ((31 : Int32) + (-16 : Int32)))] [(.int (16 : Int32)), (.int p1)])) _
    refine XS.iushr X0.here hx rfl (hb hby d_jdk_33_method_47_code_31) rfl ?_
    show Steps p.tables e below (s₁.setTop (mkF m 32 #[.val (.int p1), .val (.int ((31 : Int32) + (-16 : Int32)))] [(.int (own_sh p1 (16 : Int32)))])) _
    refine XS.istoreN X0.here hx rfl (hb hby d_jdk_33_method_47_code_32) rfl (l' := #[.val (.int (own_sh p1 (16 : Int32))), .val (.int ((31 : Int32) + (-16 : Int32)))]) rfl ?_
    show Steps p.tables e below (s₁.setTop (mkF m 33 #[.val (.int (own_sh p1 (16 : Int32))), .val (.int ((31 : Int32) + (-16 : Int32)))] [])) _
    refine XS.iloadN X0.here hx rfl (hb hby d_jdk_33_method_47_code_33) rfl ?_
    show Steps p.tables e below (s₁.setTop (mkF m 34 #[.val (.int (own_sh p1 (16 : Int32))), .val (.int ((31 : Int32) + (-16 : Int32)))] [(.int (own_sh p1 (16 : Int32)))])) _
    refine XS.sipush X0.here hx rfl (hb hby d_jdk_33_method_47_code_34) ?_
    show Steps p.tables e below (s₁.setTop (mkF m 37 #[.val (.int (own_sh p1 (16 : Int32))), .val (.int ((31 : Int32) + (-16 : Int32)))] [(.int (256 : Int32)), (.int (own_sh p1 (16 : Int32)))])) _
    refine XS.icmpNo X0.here hx rfl (hb hby d_jdk_33_method_47_code_37) rfl (flt hc37).1 ?_
    show Steps p.tables e below (s₁.setTop (mkF m 40 #[.val (.int (own_sh p1 (16 : Int32))), .val (.int ((31 : Int32) + (-16 : Int32)))] [])) _
    refine XS.iinc X0.here hx rfl (hb hby d_jdk_33_method_47_code_40) rfl (l' := #[.val (.int (own_sh p1 (16 : Int32))), .val (.int (((31 : Int32) + (-16 : Int32)) + (-8 : Int32)))]) rfl ?_
    show Steps p.tables e below (s₁.setTop (mkF m 43 #[.val (.int (own_sh p1 (16 : Int32))), .val (.int (((31 : Int32) + (-16 : Int32)) + (-8 : Int32)))] [])) _
    refine XS.iloadN X0.here hx rfl (hb hby d_jdk_33_method_47_code_43) rfl ?_
    show Steps p.tables e below (s₁.setTop (mkF m 44 #[.val (.int (own_sh p1 (16 : Int32))), .val (.int (((31 : Int32) + (-16 : Int32)) + (-8 : Int32)))] [(.int (own_sh p1 (16 : Int32)))])) _
    refine XS.bipush X0.here hx rfl (hb hby d_jdk_33_method_47_code_44) ?_
    show Steps p.tables e below (s₁.setTop (mkF m 46 #[.val (.int (own_sh p1 (16 : Int32))), .val (.int (((31 : Int32) + (-16 : Int32)) + (-8 : Int32)))] [(.int (8 : Int32)), (.int (own_sh p1 (16 : Int32)))])) _
    refine XS.iushr X0.here hx rfl (hb hby d_jdk_33_method_47_code_46) rfl ?_
    show Steps p.tables e below (s₁.setTop (mkF m 47 #[.val (.int (own_sh p1 (16 : Int32))), .val (.int (((31 : Int32) + (-16 : Int32)) + (-8 : Int32)))] [(.int (own_sh (own_sh p1 (16 : Int32)) (8 : Int32)))])) _
    refine XS.istoreN X0.here hx rfl (hb hby d_jdk_33_method_47_code_47) rfl (l' := #[.val (.int (own_sh (own_sh p1 (16 : Int32)) (8 : Int32))), .val (.int (((31 : Int32) + (-16 : Int32)) + (-8 : Int32)))]) rfl ?_
    show Steps p.tables e below (s₁.setTop (mkF m 48 #[.val (.int (own_sh (own_sh p1 (16 : Int32)) (8 : Int32))), .val (.int (((31 : Int32) + (-16 : Int32)) + (-8 : Int32)))] [])) _
    refine XS.iloadN X0.here hx rfl (hb hby d_jdk_33_method_47_code_48) rfl ?_
    show Steps p.tables e below (s₁.setTop (mkF m 49 #[.val (.int (own_sh (own_sh p1 (16 : Int32)) (8 : Int32))), .val (.int (((31 : Int32) + (-16 : Int32)) + (-8 : Int32)))] [(.int (own_sh (own_sh p1 (16 : Int32)) (8 : Int32)))])) _
    refine XS.bipush X0.here hx rfl (hb hby d_jdk_33_method_47_code_49) ?_
    show Steps p.tables e below (s₁.setTop (mkF m 51 #[.val (.int (own_sh (own_sh p1 (16 : Int32)) (8 : Int32))), .val (.int (((31 : Int32) + (-16 : Int32)) + (-8 : Int32)))] [(.int (16 : Int32)), (.int (own_sh (own_sh p1 (16 : Int32)) (8 : Int32)))])) _
    refine XS.icmpNo X0.here hx rfl (hb hby d_jdk_33_method_47_code_51) rfl (flt hc51).1 ?_
    show Steps p.tables e below (s₁.setTop (mkF m 54 #[.val (.int (own_sh (own_sh p1 (16 : Int32)) (8 : Int32))), .val (.int (((31 : Int32) + (-16 : Int32)) + (-8 : Int32)))] [])) _
    refine XS.iinc X0.here hx rfl (hb hby d_jdk_33_method_47_code_54) rfl (l' := #[.val (.int (own_sh (own_sh p1 (16 : Int32)) (8 : Int32))), .val (.int ((((31 : Int32) + (-16 : Int32)) + (-8 : Int32)) + (-4 : Int32)))]) rfl ?_
    show Steps p.tables e below (s₁.setTop (mkF m 57 #[.val (.int (own_sh (own_sh p1 (16 : Int32)) (8 : Int32))), .val (.int ((((31 : Int32) + (-16 : Int32)) + (-8 : Int32)) + (-4 : Int32)))] [])) _
    refine XS.iloadN X0.here hx rfl (hb hby d_jdk_33_method_47_code_57) rfl ?_
    show Steps p.tables e below (s₁.setTop (mkF m 58 #[.val (.int (own_sh (own_sh p1 (16 : Int32)) (8 : Int32))), .val (.int ((((31 : Int32) + (-16 : Int32)) + (-8 : Int32)) + (-4 : Int32)))] [(.int (own_sh (own_sh p1 (16 : Int32)) (8 : Int32)))])) _
    refine XS.iconst X0.here hx rfl (hb hby d_jdk_33_method_47_code_58) ?_
    show Steps p.tables e below (s₁.setTop (mkF m 59 #[.val (.int (own_sh (own_sh p1 (16 : Int32)) (8 : Int32))), .val (.int ((((31 : Int32) + (-16 : Int32)) + (-8 : Int32)) + (-4 : Int32)))] [(.int (4 : Int32)), (.int (own_sh (own_sh p1 (16 : Int32)) (8 : Int32)))])) _
    refine XS.iushr X0.here hx rfl (hb hby d_jdk_33_method_47_code_59) rfl ?_
    show Steps p.tables e below (s₁.setTop (mkF m 60 #[.val (.int (own_sh (own_sh p1 (16 : Int32)) (8 : Int32))), .val (.int ((((31 : Int32) + (-16 : Int32)) + (-8 : Int32)) + (-4 : Int32)))] [(.int (own_sh (own_sh (own_sh p1 (16 : Int32)) (8 : Int32)) (4 : Int32)))])) _
    refine XS.istoreN X0.here hx rfl (hb hby d_jdk_33_method_47_code_60) rfl (l' := #[.val (.int (own_sh (own_sh (own_sh p1 (16 : Int32)) (8 : Int32)) (4 : Int32))), .val (.int ((((31 : Int32) + (-16 : Int32)) + (-8 : Int32)) + (-4 : Int32)))]) rfl ?_
    show Steps p.tables e below (s₁.setTop (mkF m 61 #[.val (.int (own_sh (own_sh (own_sh p1 (16 : Int32)) (8 : Int32)) (4 : Int32))), .val (.int ((((31 : Int32) + (-16 : Int32)) + (-8 : Int32)) + (-4 : Int32)))] [])) _
    refine XS.iloadN X0.here hx rfl (hb hby d_jdk_33_method_47_code_61) rfl ?_
    show Steps p.tables e below (s₁.setTop (mkF m 62 #[.val (.int (own_sh (own_sh (own_sh p1 (16 : Int32)) (8 : Int32)) (4 : Int32))), .val (.int ((((31 : Int32) + (-16 : Int32)) + (-8 : Int32)) + (-4 : Int32)))] [(.int (own_sh (own_sh (own_sh p1 (16 : Int32)) (8 : Int32)) (4 : Int32)))])) _
    refine XS.iconst X0.here hx rfl (hb hby d_jdk_33_method_47_code_62) ?_
    show Steps p.tables e below (s₁.setTop (mkF m 63 #[.val (.int (own_sh (own_sh (own_sh p1 (16 : Int32)) (8 : Int32)) (4 : Int32))), .val (.int ((((31 : Int32) + (-16 : Int32)) + (-8 : Int32)) + (-4 : Int32)))] [(.int (4 : Int32)), (.int (own_sh (own_sh (own_sh p1 (16 : Int32)) (8 : Int32)) (4 : Int32)))])) _
    refine XS.icmpNo X0.here hx rfl (hb hby d_jdk_33_method_47_code_63) rfl (flt hc63).1 ?_
    show Steps p.tables e below (s₁.setTop (mkF m 66 #[.val (.int (own_sh (own_sh (own_sh p1 (16 : Int32)) (8 : Int32)) (4 : Int32))), .val (.int ((((31 : Int32) + (-16 : Int32)) + (-8 : Int32)) + (-4 : Int32)))] [])) _
    refine XS.iinc X0.here hx rfl (hb hby d_jdk_33_method_47_code_66) rfl (l' := #[.val (.int (own_sh (own_sh (own_sh p1 (16 : Int32)) (8 : Int32)) (4 : Int32))), .val (.int (((((31 : Int32) + (-16 : Int32)) + (-8 : Int32)) + (-4 : Int32)) + (-2 : Int32)))]) rfl ?_
    show Steps p.tables e below (s₁.setTop (mkF m 69 #[.val (.int (own_sh (own_sh (own_sh p1 (16 : Int32)) (8 : Int32)) (4 : Int32))), .val (.int (((((31 : Int32) + (-16 : Int32)) + (-8 : Int32)) + (-4 : Int32)) + (-2 : Int32)))] [])) _
    refine XS.iloadN X0.here hx rfl (hb hby d_jdk_33_method_47_code_69) rfl ?_
    show Steps p.tables e below (s₁.setTop (mkF m 70 #[.val (.int (own_sh (own_sh (own_sh p1 (16 : Int32)) (8 : Int32)) (4 : Int32))), .val (.int (((((31 : Int32) + (-16 : Int32)) + (-8 : Int32)) + (-4 : Int32)) + (-2 : Int32)))] [(.int (own_sh (own_sh (own_sh p1 (16 : Int32)) (8 : Int32)) (4 : Int32)))])) _
    refine XS.iconst X0.here hx rfl (hb hby d_jdk_33_method_47_code_70) ?_
    show Steps p.tables e below (s₁.setTop (mkF m 71 #[.val (.int (own_sh (own_sh (own_sh p1 (16 : Int32)) (8 : Int32)) (4 : Int32))), .val (.int (((((31 : Int32) + (-16 : Int32)) + (-8 : Int32)) + (-4 : Int32)) + (-2 : Int32)))] [(.int (2 : Int32)), (.int (own_sh (own_sh (own_sh p1 (16 : Int32)) (8 : Int32)) (4 : Int32)))])) _
    refine XS.iushr X0.here hx rfl (hb hby d_jdk_33_method_47_code_71) rfl ?_
    show Steps p.tables e below (s₁.setTop (mkF m 72 #[.val (.int (own_sh (own_sh (own_sh p1 (16 : Int32)) (8 : Int32)) (4 : Int32))), .val (.int (((((31 : Int32) + (-16 : Int32)) + (-8 : Int32)) + (-4 : Int32)) + (-2 : Int32)))] [(.int (own_sh (own_sh (own_sh (own_sh p1 (16 : Int32)) (8 : Int32)) (4 : Int32)) (2 : Int32)))])) _
    refine XS.istoreN X0.here hx rfl (hb hby d_jdk_33_method_47_code_72) rfl (l' := #[.val (.int (own_sh (own_sh (own_sh (own_sh p1 (16 : Int32)) (8 : Int32)) (4 : Int32)) (2 : Int32))), .val (.int (((((31 : Int32) + (-16 : Int32)) + (-8 : Int32)) + (-4 : Int32)) + (-2 : Int32)))]) rfl ?_
    show Steps p.tables e below (s₁.setTop (mkF m 73 #[.val (.int (own_sh (own_sh (own_sh (own_sh p1 (16 : Int32)) (8 : Int32)) (4 : Int32)) (2 : Int32))), .val (.int (((((31 : Int32) + (-16 : Int32)) + (-8 : Int32)) + (-4 : Int32)) + (-2 : Int32)))] [])) _
    refine XS.iloadN X0.here hx rfl (hb hby d_jdk_33_method_47_code_73) rfl ?_
    show Steps p.tables e below (s₁.setTop (mkF m 74 #[.val (.int (own_sh (own_sh (own_sh (own_sh p1 (16 : Int32)) (8 : Int32)) (4 : Int32)) (2 : Int32))), .val (.int (((((31 : Int32) + (-16 : Int32)) + (-8 : Int32)) + (-4 : Int32)) + (-2 : Int32)))] [(.int (((((31 : Int32) + (-16 : Int32)) + (-8 : Int32)) + (-4 : Int32)) + (-2 : Int32)))])) _
    refine XS.iloadN X0.here hx rfl (hb hby d_jdk_33_method_47_code_74) rfl ?_
    show Steps p.tables e below (s₁.setTop (mkF m 75 #[.val (.int (own_sh (own_sh (own_sh (own_sh p1 (16 : Int32)) (8 : Int32)) (4 : Int32)) (2 : Int32))), .val (.int (((((31 : Int32) + (-16 : Int32)) + (-8 : Int32)) + (-4 : Int32)) + (-2 : Int32)))] [(.int (own_sh (own_sh (own_sh (own_sh p1 (16 : Int32)) (8 : Int32)) (4 : Int32)) (2 : Int32))), (.int (((((31 : Int32) + (-16 : Int32)) + (-8 : Int32)) + (-4 : Int32)) + (-2 : Int32)))])) _
    refine XS.iconst X0.here hx rfl (hb hby d_jdk_33_method_47_code_75) ?_
    show Steps p.tables e below (s₁.setTop (mkF m 76 #[.val (.int (own_sh (own_sh (own_sh (own_sh p1 (16 : Int32)) (8 : Int32)) (4 : Int32)) (2 : Int32))), .val (.int (((((31 : Int32) + (-16 : Int32)) + (-8 : Int32)) + (-4 : Int32)) + (-2 : Int32)))] [(.int (1 : Int32)), (.int (own_sh (own_sh (own_sh (own_sh p1 (16 : Int32)) (8 : Int32)) (4 : Int32)) (2 : Int32))), (.int (((((31 : Int32) + (-16 : Int32)) + (-8 : Int32)) + (-4 : Int32)) + (-2 : Int32)))])) _
    refine XS.iushr X0.here hx rfl (hb hby d_jdk_33_method_47_code_76) rfl ?_
    show Steps p.tables e below (s₁.setTop (mkF m 77 #[.val (.int (own_sh (own_sh (own_sh (own_sh p1 (16 : Int32)) (8 : Int32)) (4 : Int32)) (2 : Int32))), .val (.int (((((31 : Int32) + (-16 : Int32)) + (-8 : Int32)) + (-4 : Int32)) + (-2 : Int32)))] [(.int (own_sh (own_sh (own_sh (own_sh (own_sh p1 (16 : Int32)) (8 : Int32)) (4 : Int32)) (2 : Int32)) (1 : Int32))), (.int (((((31 : Int32) + (-16 : Int32)) + (-8 : Int32)) + (-4 : Int32)) + (-2 : Int32)))])) _
    refine XS.isub X0.here hx rfl (hb hby d_jdk_33_method_47_code_77) rfl ?_
    show Steps p.tables e below (s₁.setTop (mkF m 78 #[.val (.int (own_sh (own_sh (own_sh (own_sh p1 (16 : Int32)) (8 : Int32)) (4 : Int32)) (2 : Int32))), .val (.int (((((31 : Int32) + (-16 : Int32)) + (-8 : Int32)) + (-4 : Int32)) + (-2 : Int32)))] [(.int ((((((31 : Int32) + (-16 : Int32)) + (-8 : Int32)) + (-4 : Int32)) + (-2 : Int32)) - (own_sh (own_sh (own_sh (own_sh (own_sh p1 (16 : Int32)) (8 : Int32)) (4 : Int32)) (2 : Int32)) (1 : Int32))))])) _
    exact retI X0 hx Bd.returns (hb hby d_jdk_33_method_47_code_78) hr
  · show Q_rmZ Z p1 h0 n0 _ s₁.heap _
    rw [e0]
    exact ⟨by rw [hres], N0, rfl⟩
set_option maxRecDepth 65536 in
set_option maxHeartbeats 40000000 in
theorem rmZ_ft (l : Launch) (Z : State) (a0 : Array Value) (hw : ∀ d ∈ tables_1, d.before a0 Z = true) (ws : List Jvm.Cond) (p1 : Int32) (h0 : Heap) (n0 : Nat) (Z0 : n0 ≤ h0.size) (hc1 : ¬ ((0 : Int32) < p1)) (hc5 : p1 = (0 : Int32)) (hres : (own_nlz32 p1) = (32 : Int32)) :
    MetFree l (⟨"java/lang/Integer", "numberOfLeadingZeros", "(I)I"⟩ : MethodName) (head1 (Jvm.Cond.code (⟨"java/lang/Integer", "numberOfLeadingZeros", "(I)I"⟩ : MethodName) jdk_33_method_47_code 2 (some .int) :: ws) ({ frames := 0, cells := 0, slots := 0, locals := 0 } : Room)) (fun a U => a = #[(.int p1)] ∧ Z.Warmed39 U.vm ∧ U.heap = h0) (fun _ _ _ _ _ => True) (fun _ U o U' => ∃ v L, o = .returned v ∧ Q_rmZ Z p1 h0 n0 v U'.heap L ∧ FrameEnd U o U' L ({ frames := 0, cells := 0, slots := 0, locals := 0 } : Room).cells ({ frames := 0, cells := 0, slots := 0, locals := 0 } : Room).slots) := by
  refine MetFree.of_bodySF (plainFor_of_name pn_2) hisR ?_
  intro p e s m args below meth c s₁ Bd hml0 hP hK
  obtain ⟨rfl, hZ, hh⟩ := hP
  have hx := Bd.exec
  have hby := Bd.bytes
  have hml : c.maxLocals = 2 := hml0
  have hown : s.vm.findClass "java/lang/Integer" = some m.cls := findClass_of_methodNamed Bd.named
  have hnm := (name_of_methodNamed Bd.named Bd.method).1
  have X0 : Stand p l e ({ frames := 0, cells := 0, slots := 0, locals := 0 } : Room) s m #[(.int p1)] below meth c s₁ [] 0 0 := Stand.of_body Bd
  have e0 : s₁.heap = h0 := by rw [← hh, Bd.state]; rfl
  have N0 := Fr.nil n0
  have pre0 : ∀ t, Steps p.tables e below (s₁.setTop (mkF m 0 #[.val (.int p1), .unset] [])) t → Steps p.tables e below (s₁.setTop (entryFrame m #[(.int p1)] 2)) t := fun t k => castTop (ef_2 m p1) k
  obtain ⟨fs, hr, hrun, hended, hW, hsame⟩ := X0.leave (v := some (.int (32 : Int32))) (fun h => by rw [Bd.returns] at h; cases h)
  refine ⟨_, _, pre0 _ ?_, hrun, hended, _, _, rfl, ?_, ⟨_, rfl⟩, hW, hsame.mono (by decide) (by decide)⟩
  · show Steps p.tables e below (s₁.setTop (mkF m 0 #[.val (.int p1), .unset] [])) _
    refine XS.iloadN X0.here hx rfl (hb hby d_jdk_33_method_47_code_0) rfl ?_
    show Steps p.tables e below (s₁.setTop (mkF m 1 #[.val (.int p1), .unset] [(.int p1)])) _
    refine XS.ifNo X0.here hx rfl (hb hby d_jdk_33_method_47_code_1) rfl ((if0 _ _).trans (flt hc1).2.2.1) ?_
    show Steps p.tables e below (s₁.setTop (mkF m 4 #[.val (.int p1), .unset] [])) _
    refine XS.iloadN X0.here hx rfl (hb hby d_jdk_33_method_47_code_4) rfl ?_
    show Steps p.tables e below (s₁.setTop (mkF m 5 #[.val (.int p1), .unset] [(.int p1)])) _
    refine XS.ifNo X0.here hx rfl (hb hby d_jdk_33_method_47_code_5) rfl ((if0 _ _).trans (teq hc5).2) ?_
    show Steps p.tables e below (s₁.setTop (mkF m 8 #[.val (.int p1), .unset] [])) _
    refine XS.bipush X0.here hx rfl (hb hby d_jdk_33_method_47_code_8) ?_
    show Steps p.tables e below (s₁.setTop (mkF m 10 #[.val (.int p1), .unset] [(.int (32 : Int32))])) _
    refine XS.goto X0.here hx rfl (pc0 := 10) (pc' := 14) rfl (hb hby d_jdk_33_method_47_code_10) (by decide) (by decide) ?_
    show Steps p.tables e below (s₁.setTop (mkF m 14 #[.val (.int p1), .unset] [(.int (32 : Int32))])) _
    exact retI X0 hx Bd.returns (hb hby d_jdk_33_method_47_code_14) hr
  · show Q_rmZ Z p1 h0 n0 _ s₁.heap _
    rw [e0]
    exact ⟨by rw [hres], N0, rfl⟩
set_option maxRecDepth 65536 in
set_option maxHeartbeats 40000000 in
theorem rmZ_ff (l : Launch) (Z : State) (a0 : Array Value) (hw : ∀ d ∈ tables_1, d.before a0 Z = true) (ws : List Jvm.Cond) (p1 : Int32) (h0 : Heap) (n0 : Nat) (Z0 : n0 ≤ h0.size) (hc1 : ¬ ((0 : Int32) < p1)) (hc5 : ¬ (p1 = (0 : Int32))) (hres : (own_nlz32 p1) = (0 : Int32)) :
    MetFree l (⟨"java/lang/Integer", "numberOfLeadingZeros", "(I)I"⟩ : MethodName) (head1 (Jvm.Cond.code (⟨"java/lang/Integer", "numberOfLeadingZeros", "(I)I"⟩ : MethodName) jdk_33_method_47_code 2 (some .int) :: ws) ({ frames := 0, cells := 0, slots := 0, locals := 0 } : Room)) (fun a U => a = #[(.int p1)] ∧ Z.Warmed39 U.vm ∧ U.heap = h0) (fun _ _ _ _ _ => True) (fun _ U o U' => ∃ v L, o = .returned v ∧ Q_rmZ Z p1 h0 n0 v U'.heap L ∧ FrameEnd U o U' L ({ frames := 0, cells := 0, slots := 0, locals := 0 } : Room).cells ({ frames := 0, cells := 0, slots := 0, locals := 0 } : Room).slots) := by
  refine MetFree.of_bodySF (plainFor_of_name pn_2) hisR ?_
  intro p e s m args below meth c s₁ Bd hml0 hP hK
  obtain ⟨rfl, hZ, hh⟩ := hP
  have hx := Bd.exec
  have hby := Bd.bytes
  have hml : c.maxLocals = 2 := hml0
  have hown : s.vm.findClass "java/lang/Integer" = some m.cls := findClass_of_methodNamed Bd.named
  have hnm := (name_of_methodNamed Bd.named Bd.method).1
  have X0 : Stand p l e ({ frames := 0, cells := 0, slots := 0, locals := 0 } : Room) s m #[(.int p1)] below meth c s₁ [] 0 0 := Stand.of_body Bd
  have e0 : s₁.heap = h0 := by rw [← hh, Bd.state]; rfl
  have N0 := Fr.nil n0
  have pre0 : ∀ t, Steps p.tables e below (s₁.setTop (mkF m 0 #[.val (.int p1), .unset] [])) t → Steps p.tables e below (s₁.setTop (entryFrame m #[(.int p1)] 2)) t := fun t k => castTop (ef_2 m p1) k
  obtain ⟨fs, hr, hrun, hended, hW, hsame⟩ := X0.leave (v := some (.int (0 : Int32))) (fun h => by rw [Bd.returns] at h; cases h)
  refine ⟨_, _, pre0 _ ?_, hrun, hended, _, _, rfl, ?_, ⟨_, rfl⟩, hW, hsame.mono (by decide) (by decide)⟩
  · show Steps p.tables e below (s₁.setTop (mkF m 0 #[.val (.int p1), .unset] [])) _
    refine XS.iloadN X0.here hx rfl (hb hby d_jdk_33_method_47_code_0) rfl ?_
    show Steps p.tables e below (s₁.setTop (mkF m 1 #[.val (.int p1), .unset] [(.int p1)])) _
    refine XS.ifNo X0.here hx rfl (hb hby d_jdk_33_method_47_code_1) rfl ((if0 _ _).trans (flt hc1).2.2.1) ?_
    show Steps p.tables e below (s₁.setTop (mkF m 4 #[.val (.int p1), .unset] [])) _
    refine XS.iloadN X0.here hx rfl (hb hby d_jdk_33_method_47_code_4) rfl ?_
    show Steps p.tables e below (s₁.setTop (mkF m 5 #[.val (.int p1), .unset] [(.int p1)])) _
    refine XS.ifYes X0.here hx rfl (pc0 := 5) (pc' := 13) rfl (hb hby d_jdk_33_method_47_code_5) rfl ((if0 _ _).trans (feq hc5).2) (by decide) (by decide) ?_
    show Steps p.tables e below (s₁.setTop (mkF m 13 #[.val (.int p1), .unset] [])) _
    refine XS.iconst X0.here hx rfl (hb hby d_jdk_33_method_47_code_13) ?_
    show Steps p.tables e below (s₁.setTop (mkF m 14 #[.val (.int p1), .unset] [(.int (0 : Int32))])) _
    exact retI X0 hx Bd.returns (hb hby d_jdk_33_method_47_code_14) hr
  · show Q_rmZ Z p1 h0 n0 _ s₁.heap _
    rw [e0]
    exact ⟨by rw [hres], N0, rfl⟩
theorem rmZ (l : Launch) (Z : State) (a0 : Array Value) (hw : ∀ d ∈ tables_1, d.before a0 Z = true) (ws : List Jvm.Cond) (p1 : Int32) (h0 : Heap) (n0 : Nat) (Z0 : n0 ≤ h0.size) :
    MetFree l (⟨"java/lang/Integer", "numberOfLeadingZeros", "(I)I"⟩ : MethodName) (head1 (Jvm.Cond.code (⟨"java/lang/Integer", "numberOfLeadingZeros", "(I)I"⟩ : MethodName) jdk_33_method_47_code 2 (some .int) :: ws) ({ frames := 0, cells := 0, slots := 0, locals := 0 } : Room)) (fun a U => a = #[(.int p1)] ∧ Z.Warmed39 U.vm ∧ U.heap = h0) (fun _ _ _ _ _ => True) (fun _ U o U' => ∃ v L, o = .returned v ∧ Q_rmZ Z p1 h0 n0 v U'.heap L ∧ FrameEnd U o U' L ({ frames := 0, cells := 0, slots := 0, locals := 0 } : Room).cells ({ frames := 0, cells := 0, slots := 0, locals := 0 } : Room).slots) := by
  by_cases hc1 : (0 : Int32) < p1
  · skip
    by_cases hc22 : p1 < (65536 : Int32)
    · skip
      by_cases hc37 : p1 < (256 : Int32)
      · skip
        by_cases hc51 : p1 < (16 : Int32)
        · skip
          by_cases hc63 : p1 < (4 : Int32)
          · skip
            exact rmZ_ttttt l Z a0 hw ws p1 h0 n0 Z0 hc1 hc22 hc37 hc51 hc63 (by simp only [own_nlz32, own_n0, own_n1, own_n2, own_n3, own_n4, if_pos hc1, if_pos hc22, if_pos hc37, if_pos hc51, if_pos hc63])
          · skip
            exact rmZ_ttttf l Z a0 hw ws p1 h0 n0 Z0 hc1 hc22 hc37 hc51 hc63 (by simp only [own_nlz32, own_n0, own_n1, own_n2, own_n3, own_n4, if_pos hc1, if_pos hc22, if_pos hc37, if_pos hc51, if_neg hc63])
        · skip
          by_cases hc63 : (own_sh p1 (4 : Int32)) < (4 : Int32)
          · skip
            exact rmZ_tttft l Z a0 hw ws p1 h0 n0 Z0 hc1 hc22 hc37 hc51 hc63 (by simp only [own_nlz32, own_n0, own_n1, own_n2, own_n3, own_n4, if_pos hc1, if_pos hc22, if_pos hc37, if_neg hc51, if_pos hc63])
          · skip
            exact rmZ_tttff l Z a0 hw ws p1 h0 n0 Z0 hc1 hc22 hc37 hc51 hc63 (by simp only [own_nlz32, own_n0, own_n1, own_n2, own_n3, own_n4, if_pos hc1, if_pos hc22, if_pos hc37, if_neg hc51, if_neg hc63])
      · skip
        by_cases hc51 : (own_sh p1 (8 : Int32)) < (16 : Int32)
        · skip
          by_cases hc63 : (own_sh p1 (8 : Int32)) < (4 : Int32)
          · skip
            exact rmZ_ttftt l Z a0 hw ws p1 h0 n0 Z0 hc1 hc22 hc37 hc51 hc63 (by simp only [own_nlz32, own_n0, own_n1, own_n2, own_n3, own_n4, if_pos hc1, if_pos hc22, if_neg hc37, if_pos hc51, if_pos hc63])
          · skip
            exact rmZ_ttftf l Z a0 hw ws p1 h0 n0 Z0 hc1 hc22 hc37 hc51 hc63 (by simp only [own_nlz32, own_n0, own_n1, own_n2, own_n3, own_n4, if_pos hc1, if_pos hc22, if_neg hc37, if_pos hc51, if_neg hc63])
        · skip
          by_cases hc63 : (own_sh (own_sh p1 (8 : Int32)) (4 : Int32)) < (4 : Int32)
          · skip
            exact rmZ_ttfft l Z a0 hw ws p1 h0 n0 Z0 hc1 hc22 hc37 hc51 hc63 (by simp only [own_nlz32, own_n0, own_n1, own_n2, own_n3, own_n4, if_pos hc1, if_pos hc22, if_neg hc37, if_neg hc51, if_pos hc63])
          · skip
            exact rmZ_ttfff l Z a0 hw ws p1 h0 n0 Z0 hc1 hc22 hc37 hc51 hc63 (by simp only [own_nlz32, own_n0, own_n1, own_n2, own_n3, own_n4, if_pos hc1, if_pos hc22, if_neg hc37, if_neg hc51, if_neg hc63])
    · skip
      by_cases hc37 : (own_sh p1 (16 : Int32)) < (256 : Int32)
      · skip
        by_cases hc51 : (own_sh p1 (16 : Int32)) < (16 : Int32)
        · skip
          by_cases hc63 : (own_sh p1 (16 : Int32)) < (4 : Int32)
          · skip
            exact rmZ_tfttt l Z a0 hw ws p1 h0 n0 Z0 hc1 hc22 hc37 hc51 hc63 (by simp only [own_nlz32, own_n0, own_n1, own_n2, own_n3, own_n4, if_pos hc1, if_neg hc22, if_pos hc37, if_pos hc51, if_pos hc63])
          · skip
            exact rmZ_tfttf l Z a0 hw ws p1 h0 n0 Z0 hc1 hc22 hc37 hc51 hc63 (by simp only [own_nlz32, own_n0, own_n1, own_n2, own_n3, own_n4, if_pos hc1, if_neg hc22, if_pos hc37, if_pos hc51, if_neg hc63])
        · skip
          by_cases hc63 : (own_sh (own_sh p1 (16 : Int32)) (4 : Int32)) < (4 : Int32)
          · skip
            exact rmZ_tftft l Z a0 hw ws p1 h0 n0 Z0 hc1 hc22 hc37 hc51 hc63 (by simp only [own_nlz32, own_n0, own_n1, own_n2, own_n3, own_n4, if_pos hc1, if_neg hc22, if_pos hc37, if_neg hc51, if_pos hc63])
          · skip
            exact rmZ_tftff l Z a0 hw ws p1 h0 n0 Z0 hc1 hc22 hc37 hc51 hc63 (by simp only [own_nlz32, own_n0, own_n1, own_n2, own_n3, own_n4, if_pos hc1, if_neg hc22, if_pos hc37, if_neg hc51, if_neg hc63])
      · skip
        by_cases hc51 : (own_sh (own_sh p1 (16 : Int32)) (8 : Int32)) < (16 : Int32)
        · skip
          by_cases hc63 : (own_sh (own_sh p1 (16 : Int32)) (8 : Int32)) < (4 : Int32)
          · skip
            exact rmZ_tfftt l Z a0 hw ws p1 h0 n0 Z0 hc1 hc22 hc37 hc51 hc63 (by simp only [own_nlz32, own_n0, own_n1, own_n2, own_n3, own_n4, if_pos hc1, if_neg hc22, if_neg hc37, if_pos hc51, if_pos hc63])
          · skip
            exact rmZ_tfftf l Z a0 hw ws p1 h0 n0 Z0 hc1 hc22 hc37 hc51 hc63 (by simp only [own_nlz32, own_n0, own_n1, own_n2, own_n3, own_n4, if_pos hc1, if_neg hc22, if_neg hc37, if_pos hc51, if_neg hc63])
        · skip
          by_cases hc63 : (own_sh (own_sh (own_sh p1 (16 : Int32)) (8 : Int32)) (4 : Int32)) < (4 : Int32)
          · skip
            exact rmZ_tffft l Z a0 hw ws p1 h0 n0 Z0 hc1 hc22 hc37 hc51 hc63 (by simp only [own_nlz32, own_n0, own_n1, own_n2, own_n3, own_n4, if_pos hc1, if_neg hc22, if_neg hc37, if_neg hc51, if_pos hc63])
          · skip
            exact rmZ_tffff l Z a0 hw ws p1 h0 n0 Z0 hc1 hc22 hc37 hc51 hc63 (by simp only [own_nlz32, own_n0, own_n1, own_n2, own_n3, own_n4, if_pos hc1, if_neg hc22, if_neg hc37, if_neg hc51, if_neg hc63])
  · skip
    by_cases hc5 : p1 = (0 : Int32)
    · skip
      exact rmZ_ft l Z a0 hw ws p1 h0 n0 Z0 hc1 hc5 (by simp only [own_nlz32, if_neg hc1, if_pos hc5])
    · skip
      exact rmZ_ff l Z a0 hw ws p1 h0 n0 Z0 hc1 hc5 (by simp only [own_nlz32, if_neg hc1, if_neg hc5])
theorem d_jdk_35_method_48_code_0 : decode jdk_35_method_48_code 0 = .ok (.lload_n 0, 1) := by decide +kernel
theorem d_jdk_35_method_48_code_1 : decode jdk_35_method_48_code 1 = .ok (.bipush 32, 2) := by decide +kernel
theorem d_jdk_35_method_48_code_3 : decode jdk_35_method_48_code 3 = .ok (.lushr, 1) := by decide +kernel
theorem d_jdk_35_method_48_code_4 : decode jdk_35_method_48_code 4 = .ok (.l2i, 1) := by decide +kernel
theorem d_jdk_35_method_48_code_5 : decode jdk_35_method_48_code 5 = .ok (.istore_n 2, 1) := by decide +kernel
theorem d_jdk_35_method_48_code_6 : decode jdk_35_method_48_code 6 = .ok (.iload_n 2, 1) := by decide +kernel
theorem d_jdk_35_method_48_code_7 : decode jdk_35_method_48_code 7 = .ok (.ifCond .ne 14, 3) := by decide +kernel
theorem d_jdk_35_method_48_code_10 : decode jdk_35_method_48_code 10 = .ok (.bipush 32, 2) := by decide +kernel
theorem d_jdk_35_method_48_code_12 : decode jdk_35_method_48_code 12 = .ok (.lload_n 0, 1) := by decide +kernel
theorem d_jdk_35_method_48_code_13 : decode jdk_35_method_48_code 13 = .ok (.l2i, 1) := by decide +kernel
theorem d_jdk_35_method_48_code_14 : decode jdk_35_method_48_code 14 = .ok (.invokestatic 308, 3) := by decide +kernel
theorem pd_1 : parseMethodDescriptor "(I)I" = some ⟨[.int], some .int⟩ := by decide +kernel
theorem d_jdk_35_method_48_code_17 : decode jdk_35_method_48_code 17 = .ok (.iadd, 1) := by decide +kernel
theorem d_jdk_35_method_48_code_18 : decode jdk_35_method_48_code 18 = .ok (.goto 7, 3) := by decide +kernel
theorem d_jdk_35_method_48_code_25 : decode jdk_35_method_48_code 25 = .ok (.ireturn, 1) := by decide +kernel
theorem d_jdk_35_method_48_code_21 : decode jdk_35_method_48_code 21 = .ok (.iload_n 2, 1) := by decide +kernel
theorem d_jdk_35_method_48_code_22 : decode jdk_35_method_48_code 22 = .ok (.invokestatic 308, 3) := by decide +kernel
def Q_rmY (Z : State) (q1 : Int64) (h0 : Heap) (n0 : Nat) (v : Option Value) (h : Heap) (L : List Loc) : Prop := v = some (.int (own_nlz64 q1)) ∧ Fr n0 L ∧ h = h0
theorem pn_3 : plainName "java/lang/Long" = true := by first | (simp [plainName, overriddenIn]; done) | decide +kernel
theorem ef_3 (m : MethodId) (x0 : Int64) : entryFrame m #[(.long x0)] 3 = mkF m 0 #[.val (.long x0), .second, .unset] [] := by first | (simp [entryFrame, mkF, argsToLocals, Value.category]; done) | rfl
set_option maxRecDepth 65536 in
set_option maxHeartbeats 40000000 in
theorem rmY_t (l : Launch) (Z : State) (a0 : Array Value) (hw : ∀ d ∈ tables_1, d.before a0 Z = true) (ws : List Jvm.Cond) (q1 : Int64) (h0 : Heap) (n0 : Nat) (Z0 : n0 ≤ h0.size) (hc7 : (own_hi q1) = (0 : Int32)) (hres : (own_nlz64 q1) = ((32 : Int32) + (own_nlz32 (q1.toInt32)))) :
    MetFree l (⟨"java/lang/Long", "numberOfLeadingZeros", "(J)I"⟩ : MethodName) (head1 (Jvm.Cond.code (⟨"java/lang/Long", "numberOfLeadingZeros", "(J)I"⟩ : MethodName) jdk_35_method_48_code 3 (some .int) :: ws) ({ frames := 1, cells := 0, slots := 0, locals := 14 } : Room)) (fun a U => a = #[(.long q1)] ∧ Z.Warmed39 U.vm ∧ U.heap = h0) (fun _ _ _ _ _ => True) (fun _ U o U' => ∃ v L, o = .returned v ∧ Q_rmY Z q1 h0 n0 v U'.heap L ∧ FrameEnd U o U' L ({ frames := 1, cells := 0, slots := 0, locals := 14 } : Room).cells ({ frames := 1, cells := 0, slots := 0, locals := 14 } : Room).slots) := by
  refine MetFree.of_bodySF (plainFor_of_name pn_3) hisR ?_
  intro p e s m args below meth c s₁ Bd hml0 hP hK
  obtain ⟨rfl, hZ, hh⟩ := hP
  have hx := Bd.exec
  have hby := Bd.bytes
  have hml : c.maxLocals = 3 := hml0
  have hown : s.vm.findClass "java/lang/Long" = some m.cls := findClass_of_methodNamed Bd.named
  have hnm := (name_of_methodNamed Bd.named Bd.method).1
  have X0 : Stand p l e ({ frames := 1, cells := 0, slots := 0, locals := 14 } : Room) s m #[(.long q1)] below meth c s₁ [] 0 0 := Stand.of_body Bd
  have e0 : s₁.heap = h0 := by rw [← hh, Bd.state]; rfl
  have N0 := Fr.nil n0
  have pre0 : ∀ t, Steps p.tables e below (s₁.setTop (mkF m 0 #[.val (.long q1), .second, .unset] [])) t → Steps p.tables e below (s₁.setTop (entryFrame m #[(.long q1)] 3)) t := fun t k => castTop (ef_3 m q1) k
  obtain ⟨_, _, ⟨T1, L1, k1, n1⟩, -, X1, ⟨Lc1, hQ1, l1, y1, z1⟩, st1⟩ := Jvm.LawKit.callS X0 hx (y := (⟨"java/lang/Integer", "numberOfLeadingZeros", "(I)I"⟩ : MethodName)) hown (mvT hZ (hw _ (List.mem_of_getElem? (i := 30) rfl))) (mvT hZ (hw _ (List.mem_of_getElem? (i := 31) rfl))) (mvT hZ (hw _ (List.mem_of_getElem? (i := 32) rfl))) (mvT hZ (hw _ (List.mem_of_getElem? (i := 33) rfl))) (by decide) (backOf (W := 1) (rmZ l Z a0 hw [] (q1.toInt32) h0 n0 Z0 ) hZ (hw _ (List.mem_of_getElem? (i := 33) rfl)) (hw _ (List.mem_of_getElem? (i := 32) rfl)) (by decide) (by decide)) (g := (mkF m 14 #[.val (.long q1), .second, .val (.int (own_hi q1))] [(.int (q1.toInt32)), (.int (32 : Int32))])) rfl (by rw [hml]; rfl) (argsL := [(.int (q1.toInt32))]) (rest := [(.int (32 : Int32))]) (lenOf pd_1 rfl) rfl (by show 2 * 0 + _ ≤ _; exact Nat.le_of_eq rfl) (hb hby d_jdk_35_method_48_code_14) (fun _ _ => ⟨rfl, e0, (by decide : 0 + 0 ≤ _), (by decide : 0 + 0 ≤ _)⟩)
  dsimp only [Pt.U, Pt.locs, Pt.cells, Pt.slots] at X1 l1 y1 z1 st1 hQ1
  subst l1 y1 z1
  obtain ⟨rfl, N1q, e1⟩ := hQ1
  have N1 := Fr.app N0 N1q
  obtain ⟨fs, hr, hrun, hended, hW, hsame⟩ := X1.leave (v := some (.int ((32 : Int32) + (own_nlz32 (q1.toInt32))))) (fun h => by rw [Bd.returns] at h; cases h)
  refine ⟨_, _, pre0 _ ?_, hrun, hended, _, _, rfl, ?_, ⟨_, rfl⟩, hW, hsame.mono (by decide) (by decide)⟩
  · show Steps p.tables e below (s₁.setTop (mkF m 0 #[.val (.long q1), .second, .unset] [])) _
    refine XS.lloadN X0.here hx rfl (hb hby d_jdk_35_method_48_code_0) rfl ?_
    show Steps p.tables e below (s₁.setTop (mkF m 1 #[.val (.long q1), .second, .unset] [(.long q1)])) _
    refine XS.bipush X0.here hx rfl (hb hby d_jdk_35_method_48_code_1) ?_
    show Steps p.tables e below (s₁.setTop (mkF m 3 #[.val (.long q1), .second, .unset] [(.int (32 : Int32)), (.long q1)])) _
    refine XS.lushr X0.here hx rfl (hb hby d_jdk_35_method_48_code_3) rfl ?_
    show Steps p.tables e below (s₁.setTop (mkF m 4 #[.val (.long q1), .second, .unset] [(.long ((q1.toUInt64 >>> ((32 : Int32) &&& 0x3f).toInt64.toUInt64).toInt64))])) _
    refine XS.l2i X0.here hx rfl (hb hby d_jdk_35_method_48_code_4) rfl ?_
    show Steps p.tables e below (s₁.setTop (mkF m 5 #[.val (.long q1), .second, .unset] [(.int (own_hi q1))])) _
    refine XS.istoreN X0.here hx rfl (hb hby d_jdk_35_method_48_code_5) rfl (l' := #[.val (.long q1), .second, .val (.int (own_hi q1))]) rfl ?_
    show Steps p.tables e below (s₁.setTop (mkF m 6 #[.val (.long q1), .second, .val (.int (own_hi q1))] [])) _
    refine XS.iloadN X0.here hx rfl (hb hby d_jdk_35_method_48_code_6) rfl ?_
    show Steps p.tables e below (s₁.setTop (mkF m 7 #[.val (.long q1), .second, .val (.int (own_hi q1))] [(.int (own_hi q1))])) _
    refine XS.ifNo X0.here hx rfl (hb hby d_jdk_35_method_48_code_7) rfl ((if0 _ _).trans (teq hc7).2) ?_
    show Steps p.tables e below (s₁.setTop (mkF m 10 #[.val (.long q1), .second, .val (.int (own_hi q1))] [])) _
    refine XS.bipush X0.here hx rfl (hb hby d_jdk_35_method_48_code_10) ?_
    show Steps p.tables e below (s₁.setTop (mkF m 12 #[.val (.long q1), .second, .val (.int (own_hi q1))] [(.int (32 : Int32))])) _
    refine XS.lloadN X0.here hx rfl (hb hby d_jdk_35_method_48_code_12) rfl ?_
    show Steps p.tables e below (s₁.setTop (mkF m 13 #[.val (.long q1), .second, .val (.int (own_hi q1))] [(.long q1), (.int (32 : Int32))])) _
    refine XS.l2i X0.here hx rfl (hb hby d_jdk_35_method_48_code_13) rfl ?_
    show Steps p.tables e below (s₁.setTop (mkF m 14 #[.val (.long q1), .second, .val (.int (own_hi q1))] [(.int (q1.toInt32)), (.int (32 : Int32))])) _
    refine st1 _ ?_
    show Steps p.tables e below (T1.setTop (mkF m 17 #[.val (.long q1), .second, .val (.int (own_hi q1))] [(.int (own_nlz32 (q1.toInt32))), (.int (32 : Int32))])) _
    refine XS.iadd X1.here hx rfl (hb hby d_jdk_35_method_48_code_17) rfl ?_
    show Steps p.tables e below (T1.setTop (mkF m 18 #[.val (.long q1), .second, .val (.int (own_hi q1))] [(.int ((32 : Int32) + (own_nlz32 (q1.toInt32))))])) _
    refine XS.goto X1.here hx rfl (pc0 := 18) (pc' := 25) rfl (hb hby d_jdk_35_method_48_code_18) (by decide) (by decide) ?_
    show Steps p.tables e below (T1.setTop (mkF m 25 #[.val (.long q1), .second, .val (.int (own_hi q1))] [(.int ((32 : Int32) + (own_nlz32 (q1.toInt32))))])) _
    exact retI X1 hx Bd.returns (hb hby d_jdk_35_method_48_code_25) hr
  · show Q_rmY Z q1 h0 n0 _ T1.heap _
    rw [e1]
    exact ⟨by rw [hres], N1, rfl⟩
set_option maxRecDepth 65536 in
set_option maxHeartbeats 40000000 in
theorem rmY_f (l : Launch) (Z : State) (a0 : Array Value) (hw : ∀ d ∈ tables_1, d.before a0 Z = true) (ws : List Jvm.Cond) (q1 : Int64) (h0 : Heap) (n0 : Nat) (Z0 : n0 ≤ h0.size) (hc7 : ¬ ((own_hi q1) = (0 : Int32))) (hres : (own_nlz64 q1) = (own_nlz32 (own_hi q1))) :
    MetFree l (⟨"java/lang/Long", "numberOfLeadingZeros", "(J)I"⟩ : MethodName) (head1 (Jvm.Cond.code (⟨"java/lang/Long", "numberOfLeadingZeros", "(J)I"⟩ : MethodName) jdk_35_method_48_code 3 (some .int) :: ws) ({ frames := 1, cells := 0, slots := 0, locals := 14 } : Room)) (fun a U => a = #[(.long q1)] ∧ Z.Warmed39 U.vm ∧ U.heap = h0) (fun _ _ _ _ _ => True) (fun _ U o U' => ∃ v L, o = .returned v ∧ Q_rmY Z q1 h0 n0 v U'.heap L ∧ FrameEnd U o U' L ({ frames := 1, cells := 0, slots := 0, locals := 14 } : Room).cells ({ frames := 1, cells := 0, slots := 0, locals := 14 } : Room).slots) := by
  refine MetFree.of_bodySF (plainFor_of_name pn_3) hisR ?_
  intro p e s m args below meth c s₁ Bd hml0 hP hK
  obtain ⟨rfl, hZ, hh⟩ := hP
  have hx := Bd.exec
  have hby := Bd.bytes
  have hml : c.maxLocals = 3 := hml0
  have hown : s.vm.findClass "java/lang/Long" = some m.cls := findClass_of_methodNamed Bd.named
  have hnm := (name_of_methodNamed Bd.named Bd.method).1
  have X0 : Stand p l e ({ frames := 1, cells := 0, slots := 0, locals := 14 } : Room) s m #[(.long q1)] below meth c s₁ [] 0 0 := Stand.of_body Bd
  have e0 : s₁.heap = h0 := by rw [← hh, Bd.state]; rfl
  have N0 := Fr.nil n0
  have pre0 : ∀ t, Steps p.tables e below (s₁.setTop (mkF m 0 #[.val (.long q1), .second, .unset] [])) t → Steps p.tables e below (s₁.setTop (entryFrame m #[(.long q1)] 3)) t := fun t k => castTop (ef_3 m q1) k
  obtain ⟨_, _, ⟨T1, L1, k1, n1⟩, -, X1, ⟨Lc1, hQ1, l1, y1, z1⟩, st1⟩ := Jvm.LawKit.callS X0 hx (y := (⟨"java/lang/Integer", "numberOfLeadingZeros", "(I)I"⟩ : MethodName)) hown (mvT hZ (hw _ (List.mem_of_getElem? (i := 30) rfl))) (mvT hZ (hw _ (List.mem_of_getElem? (i := 31) rfl))) (mvT hZ (hw _ (List.mem_of_getElem? (i := 32) rfl))) (mvT hZ (hw _ (List.mem_of_getElem? (i := 33) rfl))) (by decide) (backOf (W := 0) (rmZ l Z a0 hw [] (own_hi q1) h0 n0 Z0 ) hZ (hw _ (List.mem_of_getElem? (i := 33) rfl)) (hw _ (List.mem_of_getElem? (i := 32) rfl)) (by decide) (by decide)) (g := (mkF m 22 #[.val (.long q1), .second, .val (.int (own_hi q1))] [(.int (own_hi q1))])) rfl (by rw [hml]; rfl) (argsL := [(.int (own_hi q1))]) (rest := []) (lenOf pd_1 rfl) rfl (by show 2 * 0 + _ ≤ _; exact Nat.le_of_eq rfl) (hb hby d_jdk_35_method_48_code_22) (fun _ _ => ⟨rfl, e0, (by decide : 0 + 0 ≤ _), (by decide : 0 + 0 ≤ _)⟩)
  dsimp only [Pt.U, Pt.locs, Pt.cells, Pt.slots] at X1 l1 y1 z1 st1 hQ1
  subst l1 y1 z1
  obtain ⟨rfl, N1q, e1⟩ := hQ1
  have N1 := Fr.app N0 N1q
  obtain ⟨fs, hr, hrun, hended, hW, hsame⟩ := X1.leave (v := some (.int (own_nlz32 (own_hi q1)))) (fun h => by rw [Bd.returns] at h; cases h)
  refine ⟨_, _, pre0 _ ?_, hrun, hended, _, _, rfl, ?_, ⟨_, rfl⟩, hW, hsame.mono (by decide) (by decide)⟩
  · show Steps p.tables e below (s₁.setTop (mkF m 0 #[.val (.long q1), .second, .unset] [])) _
    refine XS.lloadN X0.here hx rfl (hb hby d_jdk_35_method_48_code_0) rfl ?_
    show Steps p.tables e below (s₁.setTop (mkF m 1 #[.val (.long q1), .second, .unset] [(.long q1)])) _
    refine XS.bipush X0.here hx rfl (hb hby d_jdk_35_method_48_code_1) ?_
    show Steps p.tables e below (s₁.setTop (mkF m 3 #[.val (.long q1), .second, .unset] [(.int (32 : Int32)), (.long q1)])) _
    refine XS.lushr X0.here hx rfl (hb hby d_jdk_35_method_48_code_3) rfl ?_
    show Steps p.tables e below (s₁.setTop (mkF m 4 #[.val (.long q1), .second, .unset] [(.long ((q1.toUInt64 >>> ((32 : Int32) &&& 0x3f).toInt64.toUInt64).toInt64))])) _
    refine XS.l2i X0.here hx rfl (hb hby d_jdk_35_method_48_code_4) rfl ?_
    show Steps p.tables e below (s₁.setTop (mkF m 5 #[.val (.long q1), .second, .unset] [(.int (own_hi q1))])) _
    refine XS.istoreN X0.here hx rfl (hb hby d_jdk_35_method_48_code_5) rfl (l' := #[.val (.long q1), .second, .val (.int (own_hi q1))]) rfl ?_
    show Steps p.tables e below (s₁.setTop (mkF m 6 #[.val (.long q1), .second, .val (.int (own_hi q1))] [])) _
    refine XS.iloadN X0.here hx rfl (hb hby d_jdk_35_method_48_code_6) rfl ?_
    show Steps p.tables e below (s₁.setTop (mkF m 7 #[.val (.long q1), .second, .val (.int (own_hi q1))] [(.int (own_hi q1))])) _
    refine XS.ifYes X0.here hx rfl (pc0 := 7) (pc' := 21) rfl (hb hby d_jdk_35_method_48_code_7) rfl ((if0 _ _).trans (feq hc7).2) (by decide) (by decide) ?_
    show Steps p.tables e below (s₁.setTop (mkF m 21 #[.val (.long q1), .second, .val (.int (own_hi q1))] [])) _
    refine XS.iloadN X0.here hx rfl (hb hby d_jdk_35_method_48_code_21) rfl ?_
    show Steps p.tables e below (s₁.setTop (mkF m 22 #[.val (.long q1), .second, .val (.int (own_hi q1))] [(.int (own_hi q1))])) _
    refine st1 _ ?_
    show Steps p.tables e below (T1.setTop (mkF m 25 #[.val (.long q1), .second, .val (.int (own_hi q1))] [(.int (own_nlz32 (own_hi q1)))])) _
    exact retI X1 hx Bd.returns (hb hby d_jdk_35_method_48_code_25) hr
  · show Q_rmY Z q1 h0 n0 _ T1.heap _
    rw [e1]
    exact ⟨by rw [hres], N1, rfl⟩
theorem rmY (l : Launch) (Z : State) (a0 : Array Value) (hw : ∀ d ∈ tables_1, d.before a0 Z = true) (ws : List Jvm.Cond) (q1 : Int64) (h0 : Heap) (n0 : Nat) (Z0 : n0 ≤ h0.size) :
    MetFree l (⟨"java/lang/Long", "numberOfLeadingZeros", "(J)I"⟩ : MethodName) (head1 (Jvm.Cond.code (⟨"java/lang/Long", "numberOfLeadingZeros", "(J)I"⟩ : MethodName) jdk_35_method_48_code 3 (some .int) :: ws) ({ frames := 1, cells := 0, slots := 0, locals := 14 } : Room)) (fun a U => a = #[(.long q1)] ∧ Z.Warmed39 U.vm ∧ U.heap = h0) (fun _ _ _ _ _ => True) (fun _ U o U' => ∃ v L, o = .returned v ∧ Q_rmY Z q1 h0 n0 v U'.heap L ∧ FrameEnd U o U' L ({ frames := 1, cells := 0, slots := 0, locals := 14 } : Room).cells ({ frames := 1, cells := 0, slots := 0, locals := 14 } : Room).slots) := by
  by_cases hc7 : (own_hi q1) = (0 : Int32)
  · skip
    exact rmY_t l Z a0 hw ws q1 h0 n0 Z0 hc7 (by simp only [own_nlz64, if_pos hc7])
  · skip
    exact rmY_f l Z a0 hw ws q1 h0 n0 Z0 hc7 (by simp only [own_nlz64, if_neg hc7])
theorem d_jdk_29_method_69_code_0 : decode jdk_29_method_69_code 0 = .ok (.iload_n 0, 1) := by decide +kernel
theorem d_jdk_29_method_69_code_1 : decode jdk_29_method_69_code 1 = .ok (.iload_n 1, 1) := by decide +kernel
theorem d_jdk_29_method_69_code_2 : decode jdk_29_method_69_code 2 = .ok (.if_icmp .gt 7, 3) := by decide +kernel
theorem d_jdk_29_method_69_code_9 : decode jdk_29_method_69_code 9 = .ok (.iload_n 1, 1) := by decide +kernel
theorem d_jdk_29_method_69_code_10 : decode jdk_29_method_69_code 10 = .ok (.ireturn, 1) := by decide +kernel
theorem d_jdk_29_method_69_code_5 : decode jdk_29_method_69_code 5 = .ok (.iload_n 0, 1) := by decide +kernel
theorem d_jdk_29_method_69_code_6 : decode jdk_29_method_69_code 6 = .ok (.goto 4, 3) := by decide +kernel
def Q_rmM (Z : State) (p1 : Int32) (p2 : Int32) (h0 : Heap) (n0 : Nat) (v : Option Value) (h : Heap) (L : List Loc) : Prop := v = some (.int (own_minI p1 p2)) ∧ Fr n0 L ∧ h = h0
theorem ef_4 (m : MethodId) (x0 : Int32) (x1 : Int32) : entryFrame m #[(.int x0), (.int x1)] 2 = mkF m 0 #[.val (.int x0), .val (.int x1)] [] := by first | (simp [entryFrame, mkF, argsToLocals, Value.category]; done) | rfl
set_option maxRecDepth 65536 in
set_option maxHeartbeats 40000000 in
theorem rmM_t (l : Launch) (Z : State) (a0 : Array Value) (hw : ∀ d ∈ tables_1, d.before a0 Z = true) (ws : List Jvm.Cond) (p1 : Int32) (p2 : Int32) (h0 : Heap) (n0 : Nat) (Z0 : n0 ≤ h0.size) (hc2 : p2 < p1) (hres : (own_minI p1 p2) = p2) :
    MetFree l (⟨"java/lang/Math", "min", "(II)I"⟩ : MethodName) (head1 (Jvm.Cond.code (⟨"java/lang/Math", "min", "(II)I"⟩ : MethodName) jdk_29_method_69_code 2 (some .int) :: ws) ({ frames := 0, cells := 0, slots := 0, locals := 0 } : Room)) (fun a U => a = #[(.int p1), (.int p2)] ∧ Z.Warmed39 U.vm ∧ U.heap = h0) (fun _ _ _ _ _ => True) (fun _ U o U' => ∃ v L, o = .returned v ∧ Q_rmM Z p1 p2 h0 n0 v U'.heap L ∧ FrameEnd U o U' L ({ frames := 0, cells := 0, slots := 0, locals := 0 } : Room).cells ({ frames := 0, cells := 0, slots := 0, locals := 0 } : Room).slots) := by
  refine MetFree.of_bodySF (Jvm.Free.JP.mathPlain rfl (by decide +kernel)) hisR ?_
  intro p e s m args below meth c s₁ Bd hml0 hP hK
  obtain ⟨rfl, hZ, hh⟩ := hP
  have hx := Bd.exec
  have hby := Bd.bytes
  have hml : c.maxLocals = 2 := hml0
  have hown : s.vm.findClass "java/lang/Math" = some m.cls := findClass_of_methodNamed Bd.named
  have hnm := (name_of_methodNamed Bd.named Bd.method).1
  have X0 : Stand p l e ({ frames := 0, cells := 0, slots := 0, locals := 0 } : Room) s m #[(.int p1), (.int p2)] below meth c s₁ [] 0 0 := Stand.of_body Bd
  have e0 : s₁.heap = h0 := by rw [← hh, Bd.state]; rfl
  have N0 := Fr.nil n0
  have pre0 : ∀ t, Steps p.tables e below (s₁.setTop (mkF m 0 #[.val (.int p1), .val (.int p2)] [])) t → Steps p.tables e below (s₁.setTop (entryFrame m #[(.int p1), (.int p2)] 2)) t := fun t k => castTop (ef_4 m p1 p2) k
  obtain ⟨fs, hr, hrun, hended, hW, hsame⟩ := X0.leave (v := some (.int p2)) (fun h => by rw [Bd.returns] at h; cases h)
  refine ⟨_, _, pre0 _ ?_, hrun, hended, _, _, rfl, ?_, ⟨_, rfl⟩, hW, hsame.mono (by decide) (by decide)⟩
  · show Steps p.tables e below (s₁.setTop (mkF m 0 #[.val (.int p1), .val (.int p2)] [])) _
    refine XS.iloadN X0.here hx rfl (hb hby d_jdk_29_method_69_code_0) rfl ?_
    show Steps p.tables e below (s₁.setTop (mkF m 1 #[.val (.int p1), .val (.int p2)] [(.int p1)])) _
    refine XS.iloadN X0.here hx rfl (hb hby d_jdk_29_method_69_code_1) rfl ?_
    show Steps p.tables e below (s₁.setTop (mkF m 2 #[.val (.int p1), .val (.int p2)] [(.int p2), (.int p1)])) _
    refine XS.icmpYes X0.here hx rfl (pc0 := 2) (pc' := 9) rfl (hb hby d_jdk_29_method_69_code_2) rfl (tlt hc2).2.2.1 (by decide) (by decide) ?_
    show Steps p.tables e below (s₁.setTop (mkF m 9 #[.val (.int p1), .val (.int p2)] [])) _
    refine XS.iloadN X0.here hx rfl (hb hby d_jdk_29_method_69_code_9) rfl ?_
    show Steps p.tables e below (s₁.setTop (mkF m 10 #[.val (.int p1), .val (.int p2)] [(.int p2)])) _
    exact retI X0 hx Bd.returns (hb hby d_jdk_29_method_69_code_10) hr
  · show Q_rmM Z p1 p2 h0 n0 _ s₁.heap _
    rw [e0]
    exact ⟨by rw [hres], N0, rfl⟩
set_option maxRecDepth 65536 in
set_option maxHeartbeats 40000000 in
theorem rmM_f (l : Launch) (Z : State) (a0 : Array Value) (hw : ∀ d ∈ tables_1, d.before a0 Z = true) (ws : List Jvm.Cond) (p1 : Int32) (p2 : Int32) (h0 : Heap) (n0 : Nat) (Z0 : n0 ≤ h0.size) (hc2 : ¬ (p2 < p1)) (hres : (own_minI p1 p2) = p1) :
    MetFree l (⟨"java/lang/Math", "min", "(II)I"⟩ : MethodName) (head1 (Jvm.Cond.code (⟨"java/lang/Math", "min", "(II)I"⟩ : MethodName) jdk_29_method_69_code 2 (some .int) :: ws) ({ frames := 0, cells := 0, slots := 0, locals := 0 } : Room)) (fun a U => a = #[(.int p1), (.int p2)] ∧ Z.Warmed39 U.vm ∧ U.heap = h0) (fun _ _ _ _ _ => True) (fun _ U o U' => ∃ v L, o = .returned v ∧ Q_rmM Z p1 p2 h0 n0 v U'.heap L ∧ FrameEnd U o U' L ({ frames := 0, cells := 0, slots := 0, locals := 0 } : Room).cells ({ frames := 0, cells := 0, slots := 0, locals := 0 } : Room).slots) := by
  refine MetFree.of_bodySF (Jvm.Free.JP.mathPlain rfl (by decide +kernel)) hisR ?_
  intro p e s m args below meth c s₁ Bd hml0 hP hK
  obtain ⟨rfl, hZ, hh⟩ := hP
  have hx := Bd.exec
  have hby := Bd.bytes
  have hml : c.maxLocals = 2 := hml0
  have hown : s.vm.findClass "java/lang/Math" = some m.cls := findClass_of_methodNamed Bd.named
  have hnm := (name_of_methodNamed Bd.named Bd.method).1
  have X0 : Stand p l e ({ frames := 0, cells := 0, slots := 0, locals := 0 } : Room) s m #[(.int p1), (.int p2)] below meth c s₁ [] 0 0 := Stand.of_body Bd
  have e0 : s₁.heap = h0 := by rw [← hh, Bd.state]; rfl
  have N0 := Fr.nil n0
  have pre0 : ∀ t, Steps p.tables e below (s₁.setTop (mkF m 0 #[.val (.int p1), .val (.int p2)] [])) t → Steps p.tables e below (s₁.setTop (entryFrame m #[(.int p1), (.int p2)] 2)) t := fun t k => castTop (ef_4 m p1 p2) k
  obtain ⟨fs, hr, hrun, hended, hW, hsame⟩ := X0.leave (v := some (.int p1)) (fun h => by rw [Bd.returns] at h; cases h)
  refine ⟨_, _, pre0 _ ?_, hrun, hended, _, _, rfl, ?_, ⟨_, rfl⟩, hW, hsame.mono (by decide) (by decide)⟩
  · show Steps p.tables e below (s₁.setTop (mkF m 0 #[.val (.int p1), .val (.int p2)] [])) _
    refine XS.iloadN X0.here hx rfl (hb hby d_jdk_29_method_69_code_0) rfl ?_
    show Steps p.tables e below (s₁.setTop (mkF m 1 #[.val (.int p1), .val (.int p2)] [(.int p1)])) _
    refine XS.iloadN X0.here hx rfl (hb hby d_jdk_29_method_69_code_1) rfl ?_
    show Steps p.tables e below (s₁.setTop (mkF m 2 #[.val (.int p1), .val (.int p2)] [(.int p2), (.int p1)])) _
    refine XS.icmpNo X0.here hx rfl (hb hby d_jdk_29_method_69_code_2) rfl (flt hc2).2.2.1 ?_
    show Steps p.tables e below (s₁.setTop (mkF m 5 #[.val (.int p1), .val (.int p2)] [])) _
    refine XS.iloadN X0.here hx rfl (hb hby d_jdk_29_method_69_code_5) rfl ?_
    show Steps p.tables e below (s₁.setTop (mkF m 6 #[.val (.int p1), .val (.int p2)] [(.int p1)])) _
    refine XS.goto X0.here hx rfl (pc0 := 6) (pc' := 10) rfl (hb hby d_jdk_29_method_69_code_6) (by decide) (by decide) ?_
    show Steps p.tables e below (s₁.setTop (mkF m 10 #[.val (.int p1), .val (.int p2)] [(.int p1)])) _
    exact retI X0 hx Bd.returns (hb hby d_jdk_29_method_69_code_10) hr
  · show Q_rmM Z p1 p2 h0 n0 _ s₁.heap _
    rw [e0]
    exact ⟨by rw [hres], N0, rfl⟩
theorem rmM (l : Launch) (Z : State) (a0 : Array Value) (hw : ∀ d ∈ tables_1, d.before a0 Z = true) (ws : List Jvm.Cond) (p1 : Int32) (p2 : Int32) (h0 : Heap) (n0 : Nat) (Z0 : n0 ≤ h0.size) :
    MetFree l (⟨"java/lang/Math", "min", "(II)I"⟩ : MethodName) (head1 (Jvm.Cond.code (⟨"java/lang/Math", "min", "(II)I"⟩ : MethodName) jdk_29_method_69_code 2 (some .int) :: ws) ({ frames := 0, cells := 0, slots := 0, locals := 0 } : Room)) (fun a U => a = #[(.int p1), (.int p2)] ∧ Z.Warmed39 U.vm ∧ U.heap = h0) (fun _ _ _ _ _ => True) (fun _ U o U' => ∃ v L, o = .returned v ∧ Q_rmM Z p1 p2 h0 n0 v U'.heap L ∧ FrameEnd U o U' L ({ frames := 0, cells := 0, slots := 0, locals := 0 } : Room).cells ({ frames := 0, cells := 0, slots := 0, locals := 0 } : Room).slots) := by
  by_cases hc2 : p2 < p1
  · skip
    exact rmM_t l Z a0 hw ws p1 p2 h0 n0 Z0 hc2 (by simp only [own_minI, if_pos hc2])
  · skip
    exact rmM_f l Z a0 hw ws p1 p2 h0 n0 Z0 hc2 (by simp only [own_minI, if_neg hc2])
theorem d_jdk_29_method_70_code_0 : decode jdk_29_method_70_code 0 = .ok (.lload_n 0, 1) := by decide +kernel
theorem d_jdk_29_method_70_code_1 : decode jdk_29_method_70_code 1 = .ok (.lload_n 2, 1) := by decide +kernel
theorem d_jdk_29_method_70_code_2 : decode jdk_29_method_70_code 2 = .ok (.lcmp, 1) := by decide +kernel
theorem d_jdk_29_method_70_code_3 : decode jdk_29_method_70_code 3 = .ok (.ifCond .gt 7, 3) := by decide +kernel
theorem d_jdk_29_method_70_code_10 : decode jdk_29_method_70_code 10 = .ok (.lload_n 2, 1) := by decide +kernel
theorem d_jdk_29_method_70_code_11 : decode jdk_29_method_70_code 11 = .ok (.lreturn, 1) := by decide +kernel
theorem d_jdk_29_method_70_code_6 : decode jdk_29_method_70_code 6 = .ok (.lload_n 0, 1) := by decide +kernel
theorem d_jdk_29_method_70_code_7 : decode jdk_29_method_70_code 7 = .ok (.goto 4, 3) := by decide +kernel
def Q_rmL (Z : State) (q1 : Int64) (q2 : Int64) (h0 : Heap) (n0 : Nat) (v : Option Value) (h : Heap) (L : List Loc) : Prop := v = some (.long (own_minL q1 q2)) ∧ Fr n0 L ∧ h = h0
theorem ef_5 (m : MethodId) (x0 : Int64) (x1 : Int64) : entryFrame m #[(.long x0), (.long x1)] 4 = mkF m 0 #[.val (.long x0), .second, .val (.long x1), .second] [] := by first | (simp [entryFrame, mkF, argsToLocals, Value.category]; done) | rfl
set_option maxRecDepth 65536 in
set_option maxHeartbeats 40000000 in
theorem rmL_t (l : Launch) (Z : State) (a0 : Array Value) (hw : ∀ d ∈ tables_1, d.before a0 Z = true) (ws : List Jvm.Cond) (q1 : Int64) (q2 : Int64) (h0 : Heap) (n0 : Nat) (Z0 : n0 ≤ h0.size) (hc3 : q2 < q1) (hres : (own_minL q1 q2) = q2) :
    MetFree l (⟨"java/lang/Math", "min", "(JJ)J"⟩ : MethodName) (head1 (Jvm.Cond.code (⟨"java/lang/Math", "min", "(JJ)J"⟩ : MethodName) jdk_29_method_70_code 4 (some .long) :: ws) ({ frames := 0, cells := 0, slots := 0, locals := 0 } : Room)) (fun a U => a = #[(.long q1), (.long q2)] ∧ Z.Warmed39 U.vm ∧ U.heap = h0) (fun _ _ _ _ _ => True) (fun _ U o U' => ∃ v L, o = .returned v ∧ Q_rmL Z q1 q2 h0 n0 v U'.heap L ∧ FrameEnd U o U' L ({ frames := 0, cells := 0, slots := 0, locals := 0 } : Room).cells ({ frames := 0, cells := 0, slots := 0, locals := 0 } : Room).slots) := by
  refine MetFree.of_bodySF (Jvm.Free.JP.mathPlain rfl (by decide +kernel)) hisR ?_
  intro p e s m args below meth c s₁ Bd hml0 hP hK
  obtain ⟨rfl, hZ, hh⟩ := hP
  have hx := Bd.exec
  have hby := Bd.bytes
  have hml : c.maxLocals = 4 := hml0
  have hown : s.vm.findClass "java/lang/Math" = some m.cls := findClass_of_methodNamed Bd.named
  have hnm := (name_of_methodNamed Bd.named Bd.method).1
  have X0 : Stand p l e ({ frames := 0, cells := 0, slots := 0, locals := 0 } : Room) s m #[(.long q1), (.long q2)] below meth c s₁ [] 0 0 := Stand.of_body Bd
  have e0 : s₁.heap = h0 := by rw [← hh, Bd.state]; rfl
  have N0 := Fr.nil n0
  have pre0 : ∀ t, Steps p.tables e below (s₁.setTop (mkF m 0 #[.val (.long q1), .second, .val (.long q2), .second] [])) t → Steps p.tables e below (s₁.setTop (entryFrame m #[(.long q1), (.long q2)] 4)) t := fun t k => castTop (ef_5 m q1 q2) k
  obtain ⟨fs, hr, hrun, hended, hW, hsame⟩ := X0.leave (v := some (.long q2)) (fun h => by rw [Bd.returns] at h; cases h)
  refine ⟨_, _, pre0 _ ?_, hrun, hended, _, _, rfl, ?_, ⟨_, rfl⟩, hW, hsame.mono (by decide) (by decide)⟩
  · show Steps p.tables e below (s₁.setTop (mkF m 0 #[.val (.long q1), .second, .val (.long q2), .second] [])) _
    refine XS.lloadN X0.here hx rfl (hb hby d_jdk_29_method_70_code_0) rfl ?_
    show Steps p.tables e below (s₁.setTop (mkF m 1 #[.val (.long q1), .second, .val (.long q2), .second] [(.long q1)])) _
    refine XS.lloadN X0.here hx rfl (hb hby d_jdk_29_method_70_code_1) rfl ?_
    show Steps p.tables e below (s₁.setTop (mkF m 2 #[.val (.long q1), .second, .val (.long q2), .second] [(.long q2), (.long q1)])) _
    refine XS.lcmp X0.here hx rfl (hb hby d_jdk_29_method_70_code_2) rfl ?_
    show Steps p.tables e below (s₁.setTop (mkF m 3 #[.val (.long q1), .second, .val (.long q2), .second] [(.int (lcmpW q1 q2))])) _
    refine XS.ifYes X0.here hx rfl (pc0 := 3) (pc' := 10) rfl (hb hby d_jdk_29_method_70_code_3) rfl ((if0 _ _).trans (tlt ((lw_gt q1 q2).mpr hc3)).2.2.1) (by decide) (by decide) ?_
    show Steps p.tables e below (s₁.setTop (mkF m 10 #[.val (.long q1), .second, .val (.long q2), .second] [])) _
    refine XS.lloadN X0.here hx rfl (hb hby d_jdk_29_method_70_code_10) rfl ?_
    show Steps p.tables e below (s₁.setTop (mkF m 11 #[.val (.long q1), .second, .val (.long q2), .second] [(.long q2)])) _
    exact X0.lreturnOut hx Bd.returns (hb hby d_jdk_29_method_70_code_11) hr
  · show Q_rmL Z q1 q2 h0 n0 _ s₁.heap _
    rw [e0]
    exact ⟨by rw [hres], N0, rfl⟩
set_option maxRecDepth 65536 in
set_option maxHeartbeats 40000000 in
theorem rmL_f (l : Launch) (Z : State) (a0 : Array Value) (hw : ∀ d ∈ tables_1, d.before a0 Z = true) (ws : List Jvm.Cond) (q1 : Int64) (q2 : Int64) (h0 : Heap) (n0 : Nat) (Z0 : n0 ≤ h0.size) (hc3 : ¬ (q2 < q1)) (hres : (own_minL q1 q2) = q1) :
    MetFree l (⟨"java/lang/Math", "min", "(JJ)J"⟩ : MethodName) (head1 (Jvm.Cond.code (⟨"java/lang/Math", "min", "(JJ)J"⟩ : MethodName) jdk_29_method_70_code 4 (some .long) :: ws) ({ frames := 0, cells := 0, slots := 0, locals := 0 } : Room)) (fun a U => a = #[(.long q1), (.long q2)] ∧ Z.Warmed39 U.vm ∧ U.heap = h0) (fun _ _ _ _ _ => True) (fun _ U o U' => ∃ v L, o = .returned v ∧ Q_rmL Z q1 q2 h0 n0 v U'.heap L ∧ FrameEnd U o U' L ({ frames := 0, cells := 0, slots := 0, locals := 0 } : Room).cells ({ frames := 0, cells := 0, slots := 0, locals := 0 } : Room).slots) := by
  refine MetFree.of_bodySF (Jvm.Free.JP.mathPlain rfl (by decide +kernel)) hisR ?_
  intro p e s m args below meth c s₁ Bd hml0 hP hK
  obtain ⟨rfl, hZ, hh⟩ := hP
  have hx := Bd.exec
  have hby := Bd.bytes
  have hml : c.maxLocals = 4 := hml0
  have hown : s.vm.findClass "java/lang/Math" = some m.cls := findClass_of_methodNamed Bd.named
  have hnm := (name_of_methodNamed Bd.named Bd.method).1
  have X0 : Stand p l e ({ frames := 0, cells := 0, slots := 0, locals := 0 } : Room) s m #[(.long q1), (.long q2)] below meth c s₁ [] 0 0 := Stand.of_body Bd
  have e0 : s₁.heap = h0 := by rw [← hh, Bd.state]; rfl
  have N0 := Fr.nil n0
  have pre0 : ∀ t, Steps p.tables e below (s₁.setTop (mkF m 0 #[.val (.long q1), .second, .val (.long q2), .second] [])) t → Steps p.tables e below (s₁.setTop (entryFrame m #[(.long q1), (.long q2)] 4)) t := fun t k => castTop (ef_5 m q1 q2) k
  obtain ⟨fs, hr, hrun, hended, hW, hsame⟩ := X0.leave (v := some (.long q1)) (fun h => by rw [Bd.returns] at h; cases h)
  refine ⟨_, _, pre0 _ ?_, hrun, hended, _, _, rfl, ?_, ⟨_, rfl⟩, hW, hsame.mono (by decide) (by decide)⟩
  · show Steps p.tables e below (s₁.setTop (mkF m 0 #[.val (.long q1), .second, .val (.long q2), .second] [])) _
    refine XS.lloadN X0.here hx rfl (hb hby d_jdk_29_method_70_code_0) rfl ?_
    show Steps p.tables e below (s₁.setTop (mkF m 1 #[.val (.long q1), .second, .val (.long q2), .second] [(.long q1)])) _
    refine XS.lloadN X0.here hx rfl (hb hby d_jdk_29_method_70_code_1) rfl ?_
    show Steps p.tables e below (s₁.setTop (mkF m 2 #[.val (.long q1), .second, .val (.long q2), .second] [(.long q2), (.long q1)])) _
    refine XS.lcmp X0.here hx rfl (hb hby d_jdk_29_method_70_code_2) rfl ?_
    show Steps p.tables e below (s₁.setTop (mkF m 3 #[.val (.long q1), .second, .val (.long q2), .second] [(.int (lcmpW q1 q2))])) _
    refine XS.ifNo X0.here hx rfl (hb hby d_jdk_29_method_70_code_3) rfl ((if0 _ _).trans (flt (mt (lw_gt q1 q2).mp hc3)).2.2.1) ?_
    show Steps p.tables e below (s₁.setTop (mkF m 6 #[.val (.long q1), .second, .val (.long q2), .second] [])) _
    refine XS.lloadN X0.here hx rfl (hb hby d_jdk_29_method_70_code_6) rfl ?_
    show Steps p.tables e below (s₁.setTop (mkF m 7 #[.val (.long q1), .second, .val (.long q2), .second] [(.long q1)])) _
    refine XS.goto X0.here hx rfl (pc0 := 7) (pc' := 11) rfl (hb hby d_jdk_29_method_70_code_7) (by decide) (by decide) ?_
    show Steps p.tables e below (s₁.setTop (mkF m 11 #[.val (.long q1), .second, .val (.long q2), .second] [(.long q1)])) _
    exact X0.lreturnOut hx Bd.returns (hb hby d_jdk_29_method_70_code_11) hr
  · show Q_rmL Z q1 q2 h0 n0 _ s₁.heap _
    rw [e0]
    exact ⟨by rw [hres], N0, rfl⟩
theorem rmL (l : Launch) (Z : State) (a0 : Array Value) (hw : ∀ d ∈ tables_1, d.before a0 Z = true) (ws : List Jvm.Cond) (q1 : Int64) (q2 : Int64) (h0 : Heap) (n0 : Nat) (Z0 : n0 ≤ h0.size) :
    MetFree l (⟨"java/lang/Math", "min", "(JJ)J"⟩ : MethodName) (head1 (Jvm.Cond.code (⟨"java/lang/Math", "min", "(JJ)J"⟩ : MethodName) jdk_29_method_70_code 4 (some .long) :: ws) ({ frames := 0, cells := 0, slots := 0, locals := 0 } : Room)) (fun a U => a = #[(.long q1), (.long q2)] ∧ Z.Warmed39 U.vm ∧ U.heap = h0) (fun _ _ _ _ _ => True) (fun _ U o U' => ∃ v L, o = .returned v ∧ Q_rmL Z q1 q2 h0 n0 v U'.heap L ∧ FrameEnd U o U' L ({ frames := 0, cells := 0, slots := 0, locals := 0 } : Room).cells ({ frames := 0, cells := 0, slots := 0, locals := 0 } : Room).slots) := by
  by_cases hc3 : q2 < q1
  · skip
    exact rmL_t l Z a0 hw ws q1 q2 h0 n0 Z0 hc3 (by simp only [own_minL, if_pos hc3])
  · skip
    exact rmL_f l Z a0 hw ws q1 q2 h0 n0 Z0 hc3 (by simp only [own_minL, if_neg hc3])
theorem d_prog_11_method_3_code_0 : decode prog_11_method_3_code 0 = .ok (.iload_n 1, 1) := by decide +kernel
theorem d_prog_11_method_3_code_1 : decode prog_11_method_3_code 1 = .ok (.iconst 1, 1) := by decide +kernel
theorem d_prog_11_method_3_code_2 : decode prog_11_method_3_code 2 = .ok (.isub, 1) := by decide +kernel
theorem d_prog_11_method_3_code_3 : decode prog_11_method_3_code 3 = .ok (.aload_n 0, 1) := by decide +kernel
theorem d_prog_11_method_3_code_4 : decode prog_11_method_3_code 4 = .ok (.getfield 7, 3) := by decide +kernel
theorem d_prog_11_method_3_code_7 : decode prog_11_method_3_code 7 = .ok (.invokestatic 19, 3) := by decide +kernel
theorem pd_2 : parseMethodDescriptor "(J)I" = some ⟨[.long], some .int⟩ := by decide +kernel
theorem d_prog_11_method_3_code_10 : decode prog_11_method_3_code 10 = .ok (.iconst 1, 1) := by decide +kernel
theorem d_prog_11_method_3_code_11 : decode prog_11_method_3_code 11 = .ok (.isub, 1) := by decide +kernel
theorem d_prog_11_method_3_code_12 : decode prog_11_method_3_code 12 = .ok (.invokestatic 25, 3) := by decide +kernel
theorem pd_3 : parseMethodDescriptor "(II)I" = some ⟨[.int, .int], some .int⟩ := by decide +kernel
theorem d_prog_11_method_3_code_15 : decode prog_11_method_3_code 15 = .ok (.istore_n 2, 1) := by decide +kernel
theorem d_prog_11_method_3_code_16 : decode prog_11_method_3_code 16 = .ok (.aload_n 0, 1) := by decide +kernel
theorem d_prog_11_method_3_code_17 : decode prog_11_method_3_code 17 = .ok (.getfield 7, 3) := by decide +kernel
theorem d_prog_11_method_3_code_20 : decode prog_11_method_3_code 20 = .ok (.iload_n 2, 1) := by decide +kernel
theorem d_prog_11_method_3_code_21 : decode prog_11_method_3_code 21 = .ok (.lshl, 1) := by decide +kernel
theorem d_prog_11_method_3_code_22 : decode prog_11_method_3_code 22 = .ok (.aload_n 0, 1) := by decide +kernel
theorem d_prog_11_method_3_code_23 : decode prog_11_method_3_code 23 = .ok (.getfield 13, 3) := by decide +kernel
theorem d_prog_11_method_3_code_26 : decode prog_11_method_3_code 26 = .ok (.invokestatic 31, 3) := by decide +kernel
theorem pd_4 : parseMethodDescriptor "(JJ)J" = some ⟨[.long, .long], some .long⟩ := by decide +kernel
theorem d_prog_11_method_3_code_29 : decode prog_11_method_3_code 29 = .ok (.lreturn, 1) := by decide +kernel
def Q_rmF (Z : State) (a1 : Addr) (p2 : Int32) (q3 : Int64) (q4 : Int64) (h0 : Heap) (n0 : Nat) (v : Option Value) (h : Heap) (L : List Loc) : Prop := v = some (.long (own_got q3 q4 p2)) ∧ Fr n0 L ∧ h = h0
theorem ef_6 (m : MethodId) (x0 : Addr) (x1 : Int32) : entryFrame m #[(.ref x0), (.int x1)] 3 = mkF m 0 #[.val (.ref x0), .val (.int x1), .unset] [] := by first | (simp [entryFrame, mkF, argsToLocals, Value.category]; done) | rfl
set_option maxRecDepth 65536 in
set_option maxHeartbeats 40000000 in
theorem rmF_x (l : Launch) (Z : State) (a0 : Array Value) (hw : ∀ d ∈ tables_1, d.before a0 Z = true) (ws : List Jvm.Cond) (a1 : Addr) (p2 : Int32) (q3 : Int64) (q4 : Int64) (h0 : Heap) (n0 : Nat) (Z0 : n0 ≤ h0.size) (F_firstMillis_a1 : Fld Z h0 a1 "com/example/gentle_commit/gentlecommit/initiator/RetryWaits" "firstMillis" "J" (.long q3)) (F_longestMillis_a1 : Fld Z h0 a1 "com/example/gentle_commit/gentlecommit/initiator/RetryWaits" "longestMillis" "J" (.long q4)) (hres : (own_got q3 q4 p2) = (own_minL (q3 <<< ((own_minI (p2 - (1 : Int32)) ((own_nlz64 q3) - (1 : Int32))) &&& 0x3f).toInt64) q4)) :
    MetFree l (⟨"com/example/gentle_commit/gentlecommit/initiator/RetryWaits", "afterFailures", "(I)J"⟩ : MethodName) (head1 (Jvm.Cond.code (⟨"com/example/gentle_commit/gentlecommit/initiator/RetryWaits", "afterFailures", "(I)J"⟩ : MethodName) prog_11_method_3_code 3 (some .long) :: ws) ({ frames := 2, cells := 0, slots := 0, locals := 29 } : Room)) (fun a U => a = #[(.ref a1), (.int p2)] ∧ Z.Warmed39 U.vm ∧ U.heap = h0) (fun _ _ _ _ _ => True) (fun _ U o U' => ∃ v L, o = .returned v ∧ Q_rmF Z a1 p2 q3 q4 h0 n0 v U'.heap L ∧ FrameEnd U o U' L ({ frames := 2, cells := 0, slots := 0, locals := 29 } : Room).cells ({ frames := 2, cells := 0, slots := 0, locals := 29 } : Room).slots) := by
  refine MetFree.of_bodySF (plainFor_of_name pn_1) hisR ?_
  intro p e s m args below meth c s₁ Bd hml0 hP hK
  obtain ⟨rfl, hZ, hh⟩ := hP
  have hx := Bd.exec
  have hby := Bd.bytes
  have hml : c.maxLocals = 3 := hml0
  have hown : s.vm.findClass "com/example/gentle_commit/gentlecommit/initiator/RetryWaits" = some m.cls := findClass_of_methodNamed Bd.named
  have hnm := (name_of_methodNamed Bd.named Bd.method).1
  have X0 : Stand p l e ({ frames := 2, cells := 0, slots := 0, locals := 29 } : Room) s m #[(.ref a1), (.int p2)] below meth c s₁ [] 0 0 := Stand.of_body Bd
  have e0 : s₁.heap = h0 := by rw [← hh, Bd.state]; rfl
  have N0 := Fr.nil n0
  have pre0 : ∀ t, Steps p.tables e below (s₁.setTop (mkF m 0 #[.val (.ref a1), .val (.int p2), .unset] [])) t → Steps p.tables e below (s₁.setTop (entryFrame m #[(.ref a1), (.int p2)] 3)) t := fun t k => castTop (ef_6 m a1 p2) k
  obtain ⟨T1, X1, e1, st1⟩ := getF X0 hx hZ hown (host := "") (Or.inl (hw _ (List.mem_of_getElem? (i := 17) rfl))) Via.refl e0 F_firstMillis_a1 (g := (mkF m 4 #[.val (.ref a1), .val (.int p2), .unset] [(.ref a1), (.int (p2 - (1 : Int32)))])) rfl rfl (hb hby d_prog_11_method_3_code_4)
  obtain ⟨_, _, ⟨T2, L2, k2, n2⟩, -, X2, ⟨Lc2, hQ2, l2, y2, z2⟩, st2⟩ := Jvm.LawKit.callS X1 hx (y := (⟨"java/lang/Long", "numberOfLeadingZeros", "(J)I"⟩ : MethodName)) hown (mvT hZ (hw _ (List.mem_of_getElem? (i := 26) rfl))) (mvT hZ (hw _ (List.mem_of_getElem? (i := 27) rfl))) (mvT hZ (hw _ (List.mem_of_getElem? (i := 28) rfl))) (mvT hZ (hw _ (List.mem_of_getElem? (i := 29) rfl))) (by decide) (backOf (W := 1) (rmY l Z a0 hw [] q3 h0 n0 Z0 ) hZ (hw _ (List.mem_of_getElem? (i := 29) rfl)) (hw _ (List.mem_of_getElem? (i := 28) rfl)) (by decide) (by decide)) (g := (mkF m 7 #[.val (.ref a1), .val (.int p2), .unset] [(.long q3), (.int (p2 - (1 : Int32)))])) rfl (by rw [hml]; rfl) (argsL := [(.long q3)]) (rest := [(.int (p2 - (1 : Int32)))]) (lenOf pd_2 rfl) rfl (by show 2 * 0 + _ ≤ _; exact Nat.le_of_eq rfl) (hb hby d_prog_11_method_3_code_7) (fun _ _ => ⟨rfl, e1, (by decide : 0 + 0 ≤ _), (by decide : 0 + 0 ≤ _)⟩)
  dsimp only [Pt.U, Pt.locs, Pt.cells, Pt.slots] at X2 l2 y2 z2 st2 hQ2
  subst l2 y2 z2
  obtain ⟨rfl, N2q, e2⟩ := hQ2
  have N2 := Fr.app N0 N2q
  obtain ⟨_, _, ⟨T3, L3, k3, n3⟩, -, X3, ⟨Lc3, hQ3, l3, y3, z3⟩, st3⟩ := Jvm.LawKit.callS X2 hx (y := (⟨"java/lang/Math", "min", "(II)I"⟩ : MethodName)) hown (mvT hZ (hw _ (List.mem_of_getElem? (i := 35) rfl))) (mvT hZ (hw _ (List.mem_of_getElem? (i := 36) rfl))) (mvT hZ (hw _ (List.mem_of_getElem? (i := 37) rfl))) (mvT hZ (hw _ (List.mem_of_getElem? (i := 38) rfl))) (by decide) (backOf (W := 0) (rmM l Z a0 hw [] (p2 - (1 : Int32)) ((own_nlz64 q3) - (1 : Int32)) h0 n0 Z0 ) hZ (hw _ (List.mem_of_getElem? (i := 38) rfl)) (hw _ (List.mem_of_getElem? (i := 37) rfl)) (by decide) (by decide)) (g := (mkF m 12 #[.val (.ref a1), .val (.int p2), .unset] [(.int ((own_nlz64 q3) - (1 : Int32))), (.int (p2 - (1 : Int32)))])) rfl (by rw [hml]; rfl) (argsL := [(.int (p2 - (1 : Int32))), (.int ((own_nlz64 q3) - (1 : Int32)))]) (rest := []) (lenOf pd_3 rfl) rfl (by show 2 * 0 + _ ≤ _; exact Nat.le_of_eq rfl) (hb hby d_prog_11_method_3_code_12) (fun _ _ => ⟨rfl, e2, (by decide : 0 + 0 ≤ _), (by decide : 0 + 0 ≤ _)⟩)
  dsimp only [Pt.U, Pt.locs, Pt.cells, Pt.slots] at X3 l3 y3 z3 st3 hQ3
  subst l3 y3 z3
  obtain ⟨rfl, N3q, e3⟩ := hQ3
  have N3 := Fr.app N2 N3q
  obtain ⟨T4, X4, e4, st4⟩ := getF X3 hx hZ hown (host := "") (Or.inl (hw _ (List.mem_of_getElem? (i := 17) rfl))) Via.refl e3 F_firstMillis_a1 (g := (mkF m 17 #[.val (.ref a1), .val (.int p2), .val (.int (own_minI (p2 - (1 : Int32)) ((own_nlz64 q3) - (1 : Int32))))] [(.ref a1)])) rfl rfl (hb hby d_prog_11_method_3_code_17)
  obtain ⟨T5, X5, e5, st5⟩ := getF X4 hx hZ hown (host := "") (Or.inl (hw _ (List.mem_of_getElem? (i := 19) rfl))) Via.refl e4 F_longestMillis_a1 (g := (mkF m 23 #[.val (.ref a1), .val (.int p2), .val (.int (own_minI (p2 - (1 : Int32)) ((own_nlz64 q3) - (1 : Int32))))] [(.ref a1), (.long (q3 <<< ((own_minI (p2 - (1 : Int32)) ((own_nlz64 q3) - (1 : Int32))) &&& 0x3f).toInt64))])) rfl rfl (hb hby d_prog_11_method_3_code_23)
  obtain ⟨_, _, ⟨T6, L6, k6, n6⟩, -, X6, ⟨Lc6, hQ6, l6, y6, z6⟩, st6⟩ := Jvm.LawKit.callS X5 hx (y := (⟨"java/lang/Math", "min", "(JJ)J"⟩ : MethodName)) hown (mvT hZ (hw _ (List.mem_of_getElem? (i := 39) rfl))) (mvT hZ (hw _ (List.mem_of_getElem? (i := 40) rfl))) (mvT hZ (hw _ (List.mem_of_getElem? (i := 37) rfl))) (mvT hZ (hw _ (List.mem_of_getElem? (i := 41) rfl))) (by decide) (backOf (W := 0) (rmL l Z a0 hw [] (q3 <<< ((own_minI (p2 - (1 : Int32)) ((own_nlz64 q3) - (1 : Int32))) &&& 0x3f).toInt64) q4 h0 n0 Z0 ) hZ (hw _ (List.mem_of_getElem? (i := 41) rfl)) (hw _ (List.mem_of_getElem? (i := 37) rfl)) (by decide) (by decide)) (g := (mkF m 26 #[.val (.ref a1), .val (.int p2), .val (.int (own_minI (p2 - (1 : Int32)) ((own_nlz64 q3) - (1 : Int32))))] [(.long q4), (.long (q3 <<< ((own_minI (p2 - (1 : Int32)) ((own_nlz64 q3) - (1 : Int32))) &&& 0x3f).toInt64))])) rfl (by rw [hml]; rfl) (argsL := [(.long (q3 <<< ((own_minI (p2 - (1 : Int32)) ((own_nlz64 q3) - (1 : Int32))) &&& 0x3f).toInt64)), (.long q4)]) (rest := []) (lenOf pd_4 rfl) rfl (by show 2 * 0 + _ ≤ _; exact Nat.le_of_eq rfl) (hb hby d_prog_11_method_3_code_26) (fun _ _ => ⟨rfl, e5, (by decide : 0 + 0 ≤ _), (by decide : 0 + 0 ≤ _)⟩)
  dsimp only [Pt.U, Pt.locs, Pt.cells, Pt.slots] at X6 l6 y6 z6 st6 hQ6
  subst l6 y6 z6
  obtain ⟨rfl, N6q, e6⟩ := hQ6
  have N6 := Fr.app N3 N6q
  obtain ⟨fs, hr, hrun, hended, hW, hsame⟩ := X6.leave (v := some (.long (own_minL (q3 <<< ((own_minI (p2 - (1 : Int32)) ((own_nlz64 q3) - (1 : Int32))) &&& 0x3f).toInt64) q4))) (fun h => by rw [Bd.returns] at h; cases h)
  refine ⟨_, _, pre0 _ ?_, hrun, hended, _, _, rfl, ?_, ⟨_, rfl⟩, hW, hsame.mono (by decide) (by decide)⟩
  · show Steps p.tables e below (s₁.setTop (mkF m 0 #[.val (.ref a1), .val (.int p2), .unset] [])) _
    refine XS.iloadN X0.here hx rfl (hb hby d_prog_11_method_3_code_0) rfl ?_
    show Steps p.tables e below (s₁.setTop (mkF m 1 #[.val (.ref a1), .val (.int p2), .unset] [(.int p2)])) _
    refine XS.iconst X0.here hx rfl (hb hby d_prog_11_method_3_code_1) ?_
    show Steps p.tables e below (s₁.setTop (mkF m 2 #[.val (.ref a1), .val (.int p2), .unset] [(.int (1 : Int32)), (.int p2)])) _
    refine XS.isub X0.here hx rfl (hb hby d_prog_11_method_3_code_2) rfl ?_
    show Steps p.tables e below (s₁.setTop (mkF m 3 #[.val (.ref a1), .val (.int p2), .unset] [(.int (p2 - (1 : Int32)))])) _
    refine XS.aloadN X0.here hx rfl (hb hby d_prog_11_method_3_code_3) rfl rfl ?_
    show Steps p.tables e below (s₁.setTop (mkF m 4 #[.val (.ref a1), .val (.int p2), .unset] [(.ref a1), (.int (p2 - (1 : Int32)))])) _
    refine st1 _ ?_
    show Steps p.tables e below (T1.setTop (mkF m 7 #[.val (.ref a1), .val (.int p2), .unset] [(.long q3), (.int (p2 - (1 : Int32)))])) _
    refine st2 _ ?_
    show Steps p.tables e below (T2.setTop (mkF m 10 #[.val (.ref a1), .val (.int p2), .unset] [(.int (own_nlz64 q3)), (.int (p2 - (1 : Int32)))])) _
    refine XS.iconst X2.here hx rfl (hb hby d_prog_11_method_3_code_10) ?_
    show Steps p.tables e below (T2.setTop (mkF m 11 #[.val (.ref a1), .val (.int p2), .unset] [(.int (1 : Int32)), (.int (own_nlz64 q3)), (.int (p2 - (1 : Int32)))])) _
    refine XS.isub X2.here hx rfl (hb hby d_prog_11_method_3_code_11) rfl ?_
    show Steps p.tables e below (T2.setTop (mkF m 12 #[.val (.ref a1), .val (.int p2), .unset] [(.int ((own_nlz64 q3) - (1 : Int32))), (.int (p2 - (1 : Int32)))])) _
    refine st3 _ ?_
    show Steps p.tables e below (T3.setTop (mkF m 15 #[.val (.ref a1), .val (.int p2), .unset] [(.int (own_minI (p2 - (1 : Int32)) ((own_nlz64 q3) - (1 : Int32))))])) _
    refine XS.istoreN X3.here hx rfl (hb hby d_prog_11_method_3_code_15) rfl (l' := #[.val (.ref a1), .val (.int p2), .val (.int (own_minI (p2 - (1 : Int32)) ((own_nlz64 q3) - (1 : Int32))))]) rfl ?_
    show Steps p.tables e below (T3.setTop (mkF m 16 #[.val (.ref a1), .val (.int p2), .val (.int (own_minI (p2 - (1 : Int32)) ((own_nlz64 q3) - (1 : Int32))))] [])) _
    refine XS.aloadN X3.here hx rfl (hb hby d_prog_11_method_3_code_16) rfl rfl ?_
    show Steps p.tables e below (T3.setTop (mkF m 17 #[.val (.ref a1), .val (.int p2), .val (.int (own_minI (p2 - (1 : Int32)) ((own_nlz64 q3) - (1 : Int32))))] [(.ref a1)])) _
    refine st4 _ ?_
    show Steps p.tables e below (T4.setTop (mkF m 20 #[.val (.ref a1), .val (.int p2), .val (.int (own_minI (p2 - (1 : Int32)) ((own_nlz64 q3) - (1 : Int32))))] [(.long q3)])) _
    refine XS.iloadN X4.here hx rfl (hb hby d_prog_11_method_3_code_20) rfl ?_
    show Steps p.tables e below (T4.setTop (mkF m 21 #[.val (.ref a1), .val (.int p2), .val (.int (own_minI (p2 - (1 : Int32)) ((own_nlz64 q3) - (1 : Int32))))] [(.int (own_minI (p2 - (1 : Int32)) ((own_nlz64 q3) - (1 : Int32)))), (.long q3)])) _
    refine XS.lshl X4.here hx rfl (hb hby d_prog_11_method_3_code_21) rfl ?_
    show Steps p.tables e below (T4.setTop (mkF m 22 #[.val (.ref a1), .val (.int p2), .val (.int (own_minI (p2 - (1 : Int32)) ((own_nlz64 q3) - (1 : Int32))))] [(.long (q3 <<< ((own_minI (p2 - (1 : Int32)) ((own_nlz64 q3) - (1 : Int32))) &&& 0x3f).toInt64))])) _
    refine XS.aloadN X4.here hx rfl (hb hby d_prog_11_method_3_code_22) rfl rfl ?_
    show Steps p.tables e below (T4.setTop (mkF m 23 #[.val (.ref a1), .val (.int p2), .val (.int (own_minI (p2 - (1 : Int32)) ((own_nlz64 q3) - (1 : Int32))))] [(.ref a1), (.long (q3 <<< ((own_minI (p2 - (1 : Int32)) ((own_nlz64 q3) - (1 : Int32))) &&& 0x3f).toInt64))])) _
    refine st5 _ ?_
    show Steps p.tables e below (T5.setTop (mkF m 26 #[.val (.ref a1), .val (.int p2), .val (.int (own_minI (p2 - (1 : Int32)) ((own_nlz64 q3) - (1 : Int32))))] [(.long q4), (.long (q3 <<< ((own_minI (p2 - (1 : Int32)) ((own_nlz64 q3) - (1 : Int32))) &&& 0x3f).toInt64))])) _
    refine st6 _ ?_
    show Steps p.tables e below (T6.setTop (mkF m 29 #[.val (.ref a1), .val (.int p2), .val (.int (own_minI (p2 - (1 : Int32)) ((own_nlz64 q3) - (1 : Int32))))] [(.long (own_minL (q3 <<< ((own_minI (p2 - (1 : Int32)) ((own_nlz64 q3) - (1 : Int32))) &&& 0x3f).toInt64) q4))])) _
    exact X6.lreturnOut hx Bd.returns (hb hby d_prog_11_method_3_code_29) hr
  · show Q_rmF Z a1 p2 q3 q4 h0 n0 _ T6.heap _
    rw [e6]
    exact ⟨by rw [hres], N6, rfl⟩
theorem rmF (l : Launch) (Z : State) (a0 : Array Value) (hw : ∀ d ∈ tables_1, d.before a0 Z = true) (ws : List Jvm.Cond) (a1 : Addr) (p2 : Int32) (q3 : Int64) (q4 : Int64) (h0 : Heap) (n0 : Nat) (Z0 : n0 ≤ h0.size) (F_firstMillis_a1 : Fld Z h0 a1 "com/example/gentle_commit/gentlecommit/initiator/RetryWaits" "firstMillis" "J" (.long q3)) (F_longestMillis_a1 : Fld Z h0 a1 "com/example/gentle_commit/gentlecommit/initiator/RetryWaits" "longestMillis" "J" (.long q4)) :
    MetFree l (⟨"com/example/gentle_commit/gentlecommit/initiator/RetryWaits", "afterFailures", "(I)J"⟩ : MethodName) (head1 (Jvm.Cond.code (⟨"com/example/gentle_commit/gentlecommit/initiator/RetryWaits", "afterFailures", "(I)J"⟩ : MethodName) prog_11_method_3_code 3 (some .long) :: ws) ({ frames := 2, cells := 0, slots := 0, locals := 29 } : Room)) (fun a U => a = #[(.ref a1), (.int p2)] ∧ Z.Warmed39 U.vm ∧ U.heap = h0) (fun _ _ _ _ _ => True) (fun _ U o U' => ∃ v L, o = .returned v ∧ Q_rmF Z a1 p2 q3 q4 h0 n0 v U'.heap L ∧ FrameEnd U o U' L ({ frames := 2, cells := 0, slots := 0, locals := 29 } : Room).cells ({ frames := 2, cells := 0, slots := 0, locals := 29 } : Room).slots) := by
  exact rmF_x l Z a0 hw ws a1 p2 q3 q4 h0 n0 Z0 F_firstMillis_a1 F_longestMillis_a1 (by rfl)
theorem d_method_2_code_0 : decode method_2_code 0 = .ok (.iload 4, 2) := by decide +kernel
theorem d_method_2_code_2 : decode method_2_code 2 = .ok (.iconst 1, 1) := by decide +kernel
theorem d_method_2_code_3 : decode method_2_code 3 = .ok (.isub, 1) := by decide +kernel
theorem d_method_2_code_4 : decode method_2_code 4 = .ok (.istore 5, 2) := by decide +kernel
theorem d_method_2_code_6 : decode method_2_code 6 = .ok (.lload_n 0, 1) := by decide +kernel
theorem d_method_2_code_7 : decode method_2_code 7 = .ok (.lconst 0, 1) := by decide +kernel
theorem d_method_2_code_8 : decode method_2_code 8 = .ok (.lcmp, 1) := by decide +kernel
theorem d_method_2_code_9 : decode method_2_code 9 = .ok (.ifCond .ne 5, 3) := by decide +kernel
theorem d_method_2_code_12 : decode method_2_code 12 = .ok (.lconst 0, 1) := by decide +kernel
theorem d_method_2_code_13 : decode method_2_code 13 = .ok (.lreturn, 1) := by decide +kernel
theorem d_method_2_code_14 : decode method_2_code 14 = .ok (.iload 5, 2) := by decide +kernel
theorem d_method_2_code_16 : decode method_2_code 16 = .ok (.bipush 62, 2) := by decide +kernel
theorem d_method_2_code_18 : decode method_2_code 18 = .ok (.if_icmp .lt 5, 3) := by decide +kernel
theorem d_method_2_code_23 : decode method_2_code 23 = .ok (.lload_n 0, 1) := by decide +kernel
theorem d_method_2_code_24 : decode method_2_code 24 = .ok (.lload_n 2, 1) := by decide +kernel
theorem d_method_2_code_25 : decode method_2_code 25 = .ok (.iload 5, 2) := by decide +kernel
theorem d_method_2_code_27 : decode method_2_code 27 = .ok (.lshr, 1) := by decide +kernel
theorem d_method_2_code_28 : decode method_2_code 28 = .ok (.lcmp, 1) := by decide +kernel
theorem d_method_2_code_29 : decode method_2_code 29 = .ok (.ifCond .gt 8, 3) := by decide +kernel
theorem d_method_2_code_37 : decode method_2_code 37 = .ok (.lload_n 2, 1) := by decide +kernel
theorem d_method_2_code_38 : decode method_2_code 38 = .ok (.lreturn, 1) := by decide +kernel
theorem d_method_2_code_32 : decode method_2_code 32 = .ok (.lload_n 0, 1) := by decide +kernel
theorem d_method_2_code_33 : decode method_2_code 33 = .ok (.iload 5, 2) := by decide +kernel
theorem d_method_2_code_35 : decode method_2_code 35 = .ok (.lshl, 1) := by decide +kernel
theorem d_method_2_code_36 : decode method_2_code 36 = .ok (.lreturn, 1) := by decide +kernel
theorem d_method_2_code_21 : decode method_2_code 21 = .ok (.lload_n 2, 1) := by decide +kernel
theorem d_method_2_code_22 : decode method_2_code 22 = .ok (.lreturn, 1) := by decide +kernel
def Q_rmE (Z : State) (q1 : Int64) (q2 : Int64) (p3 : Int32) (h0 : Heap) (n0 : Nat) (v : Option Value) (h : Heap) (L : List Loc) : Prop := v = some (.long (own_exp q1 q2 p3)) ∧ Fr n0 L ∧ h = h0
theorem pn_4 : plainName "com/example/gentle_commit/gentlecommit/initiator/RetryWaitsAfterFailuresPinLaw" = true := by first | (simp [plainName, overriddenIn]; done) | decide +kernel
theorem ef_7 (m : MethodId) (x0 : Int64) (x1 : Int64) (x2 : Int32) : entryFrame m #[(.long x0), (.long x1), (.int x2)] 6 = mkF m 0 #[.val (.long x0), .second, .val (.long x1), .second, .val (.int x2), .unset] [] := by first | (simp [entryFrame, mkF, argsToLocals, Value.category]; done) | rfl
set_option maxRecDepth 65536 in
set_option maxHeartbeats 40000000 in
theorem rmE_t (l : Launch) (Z : State) (a0 : Array Value) (hw : ∀ d ∈ tables_1, d.before a0 Z = true) (ws : List Jvm.Cond) (q1 : Int64) (q2 : Int64) (p3 : Int32) (h0 : Heap) (n0 : Nat) (Z0 : n0 ≤ h0.size) (hc9 : q1 = (0 : Int64)) (hres : (own_exp q1 q2 p3) = (0 : Int64)) :
    MetFree l (⟨"com/example/gentle_commit/gentlecommit/initiator/RetryWaitsAfterFailuresPinLaw", "expected", "(JJI)J"⟩ : MethodName) (head1 (Jvm.Cond.code (⟨"com/example/gentle_commit/gentlecommit/initiator/RetryWaitsAfterFailuresPinLaw", "expected", "(JJI)J"⟩ : MethodName) method_2_code 6 (some .long) :: ws) ({ frames := 0, cells := 0, slots := 0, locals := 0 } : Room)) (fun a U => a = #[(.long q1), (.long q2), (.int p3)] ∧ Z.Warmed39 U.vm ∧ U.heap = h0) (fun _ _ _ _ _ => True) (fun _ U o U' => ∃ v L, o = .returned v ∧ Q_rmE Z q1 q2 p3 h0 n0 v U'.heap L ∧ FrameEnd U o U' L ({ frames := 0, cells := 0, slots := 0, locals := 0 } : Room).cells ({ frames := 0, cells := 0, slots := 0, locals := 0 } : Room).slots) := by
  refine MetFree.of_bodySF (plainFor_of_name pn_4) hisR ?_
  intro p e s m args below meth c s₁ Bd hml0 hP hK
  obtain ⟨rfl, hZ, hh⟩ := hP
  have hx := Bd.exec
  have hby := Bd.bytes
  have hml : c.maxLocals = 6 := hml0
  have hown : s.vm.findClass "com/example/gentle_commit/gentlecommit/initiator/RetryWaitsAfterFailuresPinLaw" = some m.cls := findClass_of_methodNamed Bd.named
  have hnm := (name_of_methodNamed Bd.named Bd.method).1
  have X0 : Stand p l e ({ frames := 0, cells := 0, slots := 0, locals := 0 } : Room) s m #[(.long q1), (.long q2), (.int p3)] below meth c s₁ [] 0 0 := Stand.of_body Bd
  have e0 : s₁.heap = h0 := by rw [← hh, Bd.state]; rfl
  have N0 := Fr.nil n0
  have pre0 : ∀ t, Steps p.tables e below (s₁.setTop (mkF m 0 #[.val (.long q1), .second, .val (.long q2), .second, .val (.int p3), .unset] [])) t → Steps p.tables e below (s₁.setTop (entryFrame m #[(.long q1), (.long q2), (.int p3)] 6)) t := fun t k => castTop (ef_7 m q1 q2 p3) k
  obtain ⟨fs, hr, hrun, hended, hW, hsame⟩ := X0.leave (v := some (.long (0 : Int64))) (fun h => by rw [Bd.returns] at h; cases h)
  refine ⟨_, _, pre0 _ ?_, hrun, hended, _, _, rfl, ?_, ⟨_, rfl⟩, hW, hsame.mono (by decide) (by decide)⟩
  · show Steps p.tables e below (s₁.setTop (mkF m 0 #[.val (.long q1), .second, .val (.long q2), .second, .val (.int p3), .unset] [])) _
    refine XS.iload X0.here hx rfl (hb hby d_method_2_code_0) rfl ?_
    show Steps p.tables e below (s₁.setTop (mkF m 2 #[.val (.long q1), .second, .val (.long q2), .second, .val (.int p3), .unset] [(.int p3)])) _
    refine XS.iconst X0.here hx rfl (hb hby d_method_2_code_2) ?_
    show Steps p.tables e below (s₁.setTop (mkF m 3 #[.val (.long q1), .second, .val (.long q2), .second, .val (.int p3), .unset] [(.int (1 : Int32)), (.int p3)])) _
    refine XS.isub X0.here hx rfl (hb hby d_method_2_code_3) rfl ?_
    show Steps p.tables e below (s₁.setTop (mkF m 4 #[.val (.long q1), .second, .val (.long q2), .second, .val (.int p3), .unset] [(.int (p3 - (1 : Int32)))])) _
    refine XS.istore X0.here hx rfl (hb hby d_method_2_code_4) rfl (l' := #[.val (.long q1), .second, .val (.long q2), .second, .val (.int p3), .val (.int (p3 - (1 : Int32)))]) rfl ?_
    show Steps p.tables e below (s₁.setTop (mkF m 6 #[.val (.long q1), .second, .val (.long q2), .second, .val (.int p3), .val (.int (p3 - (1 : Int32)))] [])) _
    refine XS.lloadN X0.here hx rfl (hb hby d_method_2_code_6) rfl ?_
    show Steps p.tables e below (s₁.setTop (mkF m 7 #[.val (.long q1), .second, .val (.long q2), .second, .val (.int p3), .val (.int (p3 - (1 : Int32)))] [(.long q1)])) _
    refine XS.lconst X0.here hx rfl (hb hby d_method_2_code_7) ?_
    show Steps p.tables e below (s₁.setTop (mkF m 8 #[.val (.long q1), .second, .val (.long q2), .second, .val (.int p3), .val (.int (p3 - (1 : Int32)))] [(.long (0 : Int64)), (.long q1)])) _
    refine XS.lcmp X0.here hx rfl (hb hby d_method_2_code_8) rfl ?_
    show Steps p.tables e below (s₁.setTop (mkF m 9 #[.val (.long q1), .second, .val (.long q2), .second, .val (.int p3), .val (.int (p3 - (1 : Int32)))] [(.int (lcmpW q1 (0 : Int64)))])) _
    refine XS.ifNo X0.here hx rfl (hb hby d_method_2_code_9) rfl ((if0 _ _).trans (teq ((lw_eq q1 (0 : Int64)).mpr hc9)).2) ?_
    show Steps p.tables e below (s₁.setTop (mkF m 12 #[.val (.long q1), .second, .val (.long q2), .second, .val (.int p3), .val (.int (p3 - (1 : Int32)))] [])) _
    refine XS.lconst X0.here hx rfl (hb hby d_method_2_code_12) ?_
    show Steps p.tables e below (s₁.setTop (mkF m 13 #[.val (.long q1), .second, .val (.long q2), .second, .val (.int p3), .val (.int (p3 - (1 : Int32)))] [(.long (0 : Int64))])) _
    exact X0.lreturnOut hx Bd.returns (hb hby d_method_2_code_13) hr
  · show Q_rmE Z q1 q2 p3 h0 n0 _ s₁.heap _
    rw [e0]
    exact ⟨by rw [hres], N0, rfl⟩
set_option maxRecDepth 65536 in
set_option maxHeartbeats 40000000 in
theorem rmE_ftt (l : Launch) (Z : State) (a0 : Array Value) (hw : ∀ d ∈ tables_1, d.before a0 Z = true) (ws : List Jvm.Cond) (q1 : Int64) (q2 : Int64) (p3 : Int32) (h0 : Heap) (n0 : Nat) (Z0 : n0 ≤ h0.size) (hc9 : ¬ (q1 = (0 : Int64))) (hc18 : (p3 - (1 : Int32)) < (62 : Int32)) (hc29 : (q2 >>> ((p3 - (1 : Int32)) &&& 0x3f).toInt64) < q1) (hres : (own_exp q1 q2 p3) = q2) :
    MetFree l (⟨"com/example/gentle_commit/gentlecommit/initiator/RetryWaitsAfterFailuresPinLaw", "expected", "(JJI)J"⟩ : MethodName) (head1 (Jvm.Cond.code (⟨"com/example/gentle_commit/gentlecommit/initiator/RetryWaitsAfterFailuresPinLaw", "expected", "(JJI)J"⟩ : MethodName) method_2_code 6 (some .long) :: ws) ({ frames := 0, cells := 0, slots := 0, locals := 0 } : Room)) (fun a U => a = #[(.long q1), (.long q2), (.int p3)] ∧ Z.Warmed39 U.vm ∧ U.heap = h0) (fun _ _ _ _ _ => True) (fun _ U o U' => ∃ v L, o = .returned v ∧ Q_rmE Z q1 q2 p3 h0 n0 v U'.heap L ∧ FrameEnd U o U' L ({ frames := 0, cells := 0, slots := 0, locals := 0 } : Room).cells ({ frames := 0, cells := 0, slots := 0, locals := 0 } : Room).slots) := by
  refine MetFree.of_bodySF (plainFor_of_name pn_4) hisR ?_
  intro p e s m args below meth c s₁ Bd hml0 hP hK
  obtain ⟨rfl, hZ, hh⟩ := hP
  have hx := Bd.exec
  have hby := Bd.bytes
  have hml : c.maxLocals = 6 := hml0
  have hown : s.vm.findClass "com/example/gentle_commit/gentlecommit/initiator/RetryWaitsAfterFailuresPinLaw" = some m.cls := findClass_of_methodNamed Bd.named
  have hnm := (name_of_methodNamed Bd.named Bd.method).1
  have X0 : Stand p l e ({ frames := 0, cells := 0, slots := 0, locals := 0 } : Room) s m #[(.long q1), (.long q2), (.int p3)] below meth c s₁ [] 0 0 := Stand.of_body Bd
  have e0 : s₁.heap = h0 := by rw [← hh, Bd.state]; rfl
  have N0 := Fr.nil n0
  have pre0 : ∀ t, Steps p.tables e below (s₁.setTop (mkF m 0 #[.val (.long q1), .second, .val (.long q2), .second, .val (.int p3), .unset] [])) t → Steps p.tables e below (s₁.setTop (entryFrame m #[(.long q1), (.long q2), (.int p3)] 6)) t := fun t k => castTop (ef_7 m q1 q2 p3) k
  obtain ⟨fs, hr, hrun, hended, hW, hsame⟩ := X0.leave (v := some (.long q2)) (fun h => by rw [Bd.returns] at h; cases h)
  refine ⟨_, _, pre0 _ ?_, hrun, hended, _, _, rfl, ?_, ⟨_, rfl⟩, hW, hsame.mono (by decide) (by decide)⟩
  · show Steps p.tables e below (s₁.setTop (mkF m 0 #[.val (.long q1), .second, .val (.long q2), .second, .val (.int p3), .unset] [])) _
    refine XS.iload X0.here hx rfl (hb hby d_method_2_code_0) rfl ?_
    show Steps p.tables e below (s₁.setTop (mkF m 2 #[.val (.long q1), .second, .val (.long q2), .second, .val (.int p3), .unset] [(.int p3)])) _
    refine XS.iconst X0.here hx rfl (hb hby d_method_2_code_2) ?_
    show Steps p.tables e below (s₁.setTop (mkF m 3 #[.val (.long q1), .second, .val (.long q2), .second, .val (.int p3), .unset] [(.int (1 : Int32)), (.int p3)])) _
    refine XS.isub X0.here hx rfl (hb hby d_method_2_code_3) rfl ?_
    show Steps p.tables e below (s₁.setTop (mkF m 4 #[.val (.long q1), .second, .val (.long q2), .second, .val (.int p3), .unset] [(.int (p3 - (1 : Int32)))])) _
    refine XS.istore X0.here hx rfl (hb hby d_method_2_code_4) rfl (l' := #[.val (.long q1), .second, .val (.long q2), .second, .val (.int p3), .val (.int (p3 - (1 : Int32)))]) rfl ?_
    show Steps p.tables e below (s₁.setTop (mkF m 6 #[.val (.long q1), .second, .val (.long q2), .second, .val (.int p3), .val (.int (p3 - (1 : Int32)))] [])) _
    refine XS.lloadN X0.here hx rfl (hb hby d_method_2_code_6) rfl ?_
    show Steps p.tables e below (s₁.setTop (mkF m 7 #[.val (.long q1), .second, .val (.long q2), .second, .val (.int p3), .val (.int (p3 - (1 : Int32)))] [(.long q1)])) _
    refine XS.lconst X0.here hx rfl (hb hby d_method_2_code_7) ?_
    show Steps p.tables e below (s₁.setTop (mkF m 8 #[.val (.long q1), .second, .val (.long q2), .second, .val (.int p3), .val (.int (p3 - (1 : Int32)))] [(.long (0 : Int64)), (.long q1)])) _
    refine XS.lcmp X0.here hx rfl (hb hby d_method_2_code_8) rfl ?_
    show Steps p.tables e below (s₁.setTop (mkF m 9 #[.val (.long q1), .second, .val (.long q2), .second, .val (.int p3), .val (.int (p3 - (1 : Int32)))] [(.int (lcmpW q1 (0 : Int64)))])) _
    refine XS.ifYes X0.here hx rfl (pc0 := 9) (pc' := 14) rfl (hb hby d_method_2_code_9) rfl ((if0 _ _).trans (feq (mt (lw_eq q1 (0 : Int64)).mp hc9)).2) (by decide) (by decide) ?_
    show Steps p.tables e below (s₁.setTop (mkF m 14 #[.val (.long q1), .second, .val (.long q2), .second, .val (.int p3), .val (.int (p3 - (1 : Int32)))] [])) _
    refine XS.iload X0.here hx rfl (hb hby d_method_2_code_14) rfl ?_
    show Steps p.tables e below (s₁.setTop (mkF m 16 #[.val (.long q1), .second, .val (.long q2), .second, .val (.int p3), .val (.int (p3 - (1 : Int32)))] [(.int (p3 - (1 : Int32)))])) _
    refine XS.bipush X0.here hx rfl (hb hby d_method_2_code_16) ?_
    show Steps p.tables e below (s₁.setTop (mkF m 18 #[.val (.long q1), .second, .val (.long q2), .second, .val (.int p3), .val (.int (p3 - (1 : Int32)))] [(.int (62 : Int32)), (.int (p3 - (1 : Int32)))])) _
    refine XS.icmpYes X0.here hx rfl (pc0 := 18) (pc' := 23) rfl (hb hby d_method_2_code_18) rfl (tlt hc18).1 (by decide) (by decide) ?_
    show Steps p.tables e below (s₁.setTop (mkF m 23 #[.val (.long q1), .second, .val (.long q2), .second, .val (.int p3), .val (.int (p3 - (1 : Int32)))] [])) _
    refine XS.lloadN X0.here hx rfl (hb hby d_method_2_code_23) rfl ?_
    show Steps p.tables e below (s₁.setTop (mkF m 24 #[.val (.long q1), .second, .val (.long q2), .second, .val (.int p3), .val (.int (p3 - (1 : Int32)))] [(.long q1)])) _
    refine XS.lloadN X0.here hx rfl (hb hby d_method_2_code_24) rfl ?_
    show Steps p.tables e below (s₁.setTop (mkF m 25 #[.val (.long q1), .second, .val (.long q2), .second, .val (.int p3), .val (.int (p3 - (1 : Int32)))] [(.long q2), (.long q1)])) _
    refine XS.iload X0.here hx rfl (hb hby d_method_2_code_25) rfl ?_
    show Steps p.tables e below (s₁.setTop (mkF m 27 #[.val (.long q1), .second, .val (.long q2), .second, .val (.int p3), .val (.int (p3 - (1 : Int32)))] [(.int (p3 - (1 : Int32))), (.long q2), (.long q1)])) _
    refine XS.lshr X0.here hx rfl (hb hby d_method_2_code_27) rfl ?_
    show Steps p.tables e below (s₁.setTop (mkF m 28 #[.val (.long q1), .second, .val (.long q2), .second, .val (.int p3), .val (.int (p3 - (1 : Int32)))] [(.long (q2 >>> ((p3 - (1 : Int32)) &&& 0x3f).toInt64)), (.long q1)])) _
    refine XS.lcmp X0.here hx rfl (hb hby d_method_2_code_28) rfl ?_
    show Steps p.tables e below (s₁.setTop (mkF m 29 #[.val (.long q1), .second, .val (.long q2), .second, .val (.int p3), .val (.int (p3 - (1 : Int32)))] [(.int (lcmpW q1 (q2 >>> ((p3 - (1 : Int32)) &&& 0x3f).toInt64)))])) _
    refine XS.ifYes X0.here hx rfl (pc0 := 29) (pc' := 37) rfl (hb hby d_method_2_code_29) rfl ((if0 _ _).trans (tlt ((lw_gt q1 (q2 >>> ((p3 - (1 : Int32)) &&& 0x3f).toInt64)).mpr hc29)).2.2.1) (by decide) (by decide) ?_
    show Steps p.tables e below (s₁.setTop (mkF m 37 #[.val (.long q1), .second, .val (.long q2), .second, .val (.int p3), .val (.int (p3 - (1 : Int32)))] [])) _
    refine XS.lloadN X0.here hx rfl (hb hby d_method_2_code_37) rfl ?_
    show Steps p.tables e below (s₁.setTop (mkF m 38 #[.val (.long q1), .second, .val (.long q2), .second, .val (.int p3), .val (.int (p3 - (1 : Int32)))] [(.long q2)])) _
    exact X0.lreturnOut hx Bd.returns (hb hby d_method_2_code_38) hr
  · show Q_rmE Z q1 q2 p3 h0 n0 _ s₁.heap _
    rw [e0]
    exact ⟨by rw [hres], N0, rfl⟩
set_option maxRecDepth 65536 in
set_option maxHeartbeats 40000000 in
theorem rmE_ftf (l : Launch) (Z : State) (a0 : Array Value) (hw : ∀ d ∈ tables_1, d.before a0 Z = true) (ws : List Jvm.Cond) (q1 : Int64) (q2 : Int64) (p3 : Int32) (h0 : Heap) (n0 : Nat) (Z0 : n0 ≤ h0.size) (hc9 : ¬ (q1 = (0 : Int64))) (hc18 : (p3 - (1 : Int32)) < (62 : Int32)) (hc29 : ¬ ((q2 >>> ((p3 - (1 : Int32)) &&& 0x3f).toInt64) < q1)) (hres : (own_exp q1 q2 p3) = (q1 <<< ((p3 - (1 : Int32)) &&& 0x3f).toInt64)) :
    MetFree l (⟨"com/example/gentle_commit/gentlecommit/initiator/RetryWaitsAfterFailuresPinLaw", "expected", "(JJI)J"⟩ : MethodName) (head1 (Jvm.Cond.code (⟨"com/example/gentle_commit/gentlecommit/initiator/RetryWaitsAfterFailuresPinLaw", "expected", "(JJI)J"⟩ : MethodName) method_2_code 6 (some .long) :: ws) ({ frames := 0, cells := 0, slots := 0, locals := 0 } : Room)) (fun a U => a = #[(.long q1), (.long q2), (.int p3)] ∧ Z.Warmed39 U.vm ∧ U.heap = h0) (fun _ _ _ _ _ => True) (fun _ U o U' => ∃ v L, o = .returned v ∧ Q_rmE Z q1 q2 p3 h0 n0 v U'.heap L ∧ FrameEnd U o U' L ({ frames := 0, cells := 0, slots := 0, locals := 0 } : Room).cells ({ frames := 0, cells := 0, slots := 0, locals := 0 } : Room).slots) := by
  refine MetFree.of_bodySF (plainFor_of_name pn_4) hisR ?_
  intro p e s m args below meth c s₁ Bd hml0 hP hK
  obtain ⟨rfl, hZ, hh⟩ := hP
  have hx := Bd.exec
  have hby := Bd.bytes
  have hml : c.maxLocals = 6 := hml0
  have hown : s.vm.findClass "com/example/gentle_commit/gentlecommit/initiator/RetryWaitsAfterFailuresPinLaw" = some m.cls := findClass_of_methodNamed Bd.named
  have hnm := (name_of_methodNamed Bd.named Bd.method).1
  have X0 : Stand p l e ({ frames := 0, cells := 0, slots := 0, locals := 0 } : Room) s m #[(.long q1), (.long q2), (.int p3)] below meth c s₁ [] 0 0 := Stand.of_body Bd
  have e0 : s₁.heap = h0 := by rw [← hh, Bd.state]; rfl
  have N0 := Fr.nil n0
  have pre0 : ∀ t, Steps p.tables e below (s₁.setTop (mkF m 0 #[.val (.long q1), .second, .val (.long q2), .second, .val (.int p3), .unset] [])) t → Steps p.tables e below (s₁.setTop (entryFrame m #[(.long q1), (.long q2), (.int p3)] 6)) t := fun t k => castTop (ef_7 m q1 q2 p3) k
  obtain ⟨fs, hr, hrun, hended, hW, hsame⟩ := X0.leave (v := some (.long (q1 <<< ((p3 - (1 : Int32)) &&& 0x3f).toInt64))) (fun h => by rw [Bd.returns] at h; cases h)
  refine ⟨_, _, pre0 _ ?_, hrun, hended, _, _, rfl, ?_, ⟨_, rfl⟩, hW, hsame.mono (by decide) (by decide)⟩
  · show Steps p.tables e below (s₁.setTop (mkF m 0 #[.val (.long q1), .second, .val (.long q2), .second, .val (.int p3), .unset] [])) _
    refine XS.iload X0.here hx rfl (hb hby d_method_2_code_0) rfl ?_
    show Steps p.tables e below (s₁.setTop (mkF m 2 #[.val (.long q1), .second, .val (.long q2), .second, .val (.int p3), .unset] [(.int p3)])) _
    refine XS.iconst X0.here hx rfl (hb hby d_method_2_code_2) ?_
    show Steps p.tables e below (s₁.setTop (mkF m 3 #[.val (.long q1), .second, .val (.long q2), .second, .val (.int p3), .unset] [(.int (1 : Int32)), (.int p3)])) _
    refine XS.isub X0.here hx rfl (hb hby d_method_2_code_3) rfl ?_
    show Steps p.tables e below (s₁.setTop (mkF m 4 #[.val (.long q1), .second, .val (.long q2), .second, .val (.int p3), .unset] [(.int (p3 - (1 : Int32)))])) _
    refine XS.istore X0.here hx rfl (hb hby d_method_2_code_4) rfl (l' := #[.val (.long q1), .second, .val (.long q2), .second, .val (.int p3), .val (.int (p3 - (1 : Int32)))]) rfl ?_
    show Steps p.tables e below (s₁.setTop (mkF m 6 #[.val (.long q1), .second, .val (.long q2), .second, .val (.int p3), .val (.int (p3 - (1 : Int32)))] [])) _
    refine XS.lloadN X0.here hx rfl (hb hby d_method_2_code_6) rfl ?_
    show Steps p.tables e below (s₁.setTop (mkF m 7 #[.val (.long q1), .second, .val (.long q2), .second, .val (.int p3), .val (.int (p3 - (1 : Int32)))] [(.long q1)])) _
    refine XS.lconst X0.here hx rfl (hb hby d_method_2_code_7) ?_
    show Steps p.tables e below (s₁.setTop (mkF m 8 #[.val (.long q1), .second, .val (.long q2), .second, .val (.int p3), .val (.int (p3 - (1 : Int32)))] [(.long (0 : Int64)), (.long q1)])) _
    refine XS.lcmp X0.here hx rfl (hb hby d_method_2_code_8) rfl ?_
    show Steps p.tables e below (s₁.setTop (mkF m 9 #[.val (.long q1), .second, .val (.long q2), .second, .val (.int p3), .val (.int (p3 - (1 : Int32)))] [(.int (lcmpW q1 (0 : Int64)))])) _
    refine XS.ifYes X0.here hx rfl (pc0 := 9) (pc' := 14) rfl (hb hby d_method_2_code_9) rfl ((if0 _ _).trans (feq (mt (lw_eq q1 (0 : Int64)).mp hc9)).2) (by decide) (by decide) ?_
    show Steps p.tables e below (s₁.setTop (mkF m 14 #[.val (.long q1), .second, .val (.long q2), .second, .val (.int p3), .val (.int (p3 - (1 : Int32)))] [])) _
    refine XS.iload X0.here hx rfl (hb hby d_method_2_code_14) rfl ?_
    show Steps p.tables e below (s₁.setTop (mkF m 16 #[.val (.long q1), .second, .val (.long q2), .second, .val (.int p3), .val (.int (p3 - (1 : Int32)))] [(.int (p3 - (1 : Int32)))])) _
    refine XS.bipush X0.here hx rfl (hb hby d_method_2_code_16) ?_
    show Steps p.tables e below (s₁.setTop (mkF m 18 #[.val (.long q1), .second, .val (.long q2), .second, .val (.int p3), .val (.int (p3 - (1 : Int32)))] [(.int (62 : Int32)), (.int (p3 - (1 : Int32)))])) _
    refine XS.icmpYes X0.here hx rfl (pc0 := 18) (pc' := 23) rfl (hb hby d_method_2_code_18) rfl (tlt hc18).1 (by decide) (by decide) ?_
    show Steps p.tables e below (s₁.setTop (mkF m 23 #[.val (.long q1), .second, .val (.long q2), .second, .val (.int p3), .val (.int (p3 - (1 : Int32)))] [])) _
    refine XS.lloadN X0.here hx rfl (hb hby d_method_2_code_23) rfl ?_
    show Steps p.tables e below (s₁.setTop (mkF m 24 #[.val (.long q1), .second, .val (.long q2), .second, .val (.int p3), .val (.int (p3 - (1 : Int32)))] [(.long q1)])) _
    refine XS.lloadN X0.here hx rfl (hb hby d_method_2_code_24) rfl ?_
    show Steps p.tables e below (s₁.setTop (mkF m 25 #[.val (.long q1), .second, .val (.long q2), .second, .val (.int p3), .val (.int (p3 - (1 : Int32)))] [(.long q2), (.long q1)])) _
    refine XS.iload X0.here hx rfl (hb hby d_method_2_code_25) rfl ?_
    show Steps p.tables e below (s₁.setTop (mkF m 27 #[.val (.long q1), .second, .val (.long q2), .second, .val (.int p3), .val (.int (p3 - (1 : Int32)))] [(.int (p3 - (1 : Int32))), (.long q2), (.long q1)])) _
    refine XS.lshr X0.here hx rfl (hb hby d_method_2_code_27) rfl ?_
    show Steps p.tables e below (s₁.setTop (mkF m 28 #[.val (.long q1), .second, .val (.long q2), .second, .val (.int p3), .val (.int (p3 - (1 : Int32)))] [(.long (q2 >>> ((p3 - (1 : Int32)) &&& 0x3f).toInt64)), (.long q1)])) _
    refine XS.lcmp X0.here hx rfl (hb hby d_method_2_code_28) rfl ?_
    show Steps p.tables e below (s₁.setTop (mkF m 29 #[.val (.long q1), .second, .val (.long q2), .second, .val (.int p3), .val (.int (p3 - (1 : Int32)))] [(.int (lcmpW q1 (q2 >>> ((p3 - (1 : Int32)) &&& 0x3f).toInt64)))])) _
    refine XS.ifNo X0.here hx rfl (hb hby d_method_2_code_29) rfl ((if0 _ _).trans (flt (mt (lw_gt q1 (q2 >>> ((p3 - (1 : Int32)) &&& 0x3f).toInt64)).mp hc29)).2.2.1) ?_
    show Steps p.tables e below (s₁.setTop (mkF m 32 #[.val (.long q1), .second, .val (.long q2), .second, .val (.int p3), .val (.int (p3 - (1 : Int32)))] [])) _
    refine XS.lloadN X0.here hx rfl (hb hby d_method_2_code_32) rfl ?_
    show Steps p.tables e below (s₁.setTop (mkF m 33 #[.val (.long q1), .second, .val (.long q2), .second, .val (.int p3), .val (.int (p3 - (1 : Int32)))] [(.long q1)])) _
    refine XS.iload X0.here hx rfl (hb hby d_method_2_code_33) rfl ?_
    show Steps p.tables e below (s₁.setTop (mkF m 35 #[.val (.long q1), .second, .val (.long q2), .second, .val (.int p3), .val (.int (p3 - (1 : Int32)))] [(.int (p3 - (1 : Int32))), (.long q1)])) _
    refine XS.lshl X0.here hx rfl (hb hby d_method_2_code_35) rfl ?_
    show Steps p.tables e below (s₁.setTop (mkF m 36 #[.val (.long q1), .second, .val (.long q2), .second, .val (.int p3), .val (.int (p3 - (1 : Int32)))] [(.long (q1 <<< ((p3 - (1 : Int32)) &&& 0x3f).toInt64))])) _
    exact X0.lreturnOut hx Bd.returns (hb hby d_method_2_code_36) hr
  · show Q_rmE Z q1 q2 p3 h0 n0 _ s₁.heap _
    rw [e0]
    exact ⟨by rw [hres], N0, rfl⟩
set_option maxRecDepth 65536 in
set_option maxHeartbeats 40000000 in
theorem rmE_ff (l : Launch) (Z : State) (a0 : Array Value) (hw : ∀ d ∈ tables_1, d.before a0 Z = true) (ws : List Jvm.Cond) (q1 : Int64) (q2 : Int64) (p3 : Int32) (h0 : Heap) (n0 : Nat) (Z0 : n0 ≤ h0.size) (hc9 : ¬ (q1 = (0 : Int64))) (hc18 : ¬ ((p3 - (1 : Int32)) < (62 : Int32))) (hres : (own_exp q1 q2 p3) = q2) :
    MetFree l (⟨"com/example/gentle_commit/gentlecommit/initiator/RetryWaitsAfterFailuresPinLaw", "expected", "(JJI)J"⟩ : MethodName) (head1 (Jvm.Cond.code (⟨"com/example/gentle_commit/gentlecommit/initiator/RetryWaitsAfterFailuresPinLaw", "expected", "(JJI)J"⟩ : MethodName) method_2_code 6 (some .long) :: ws) ({ frames := 0, cells := 0, slots := 0, locals := 0 } : Room)) (fun a U => a = #[(.long q1), (.long q2), (.int p3)] ∧ Z.Warmed39 U.vm ∧ U.heap = h0) (fun _ _ _ _ _ => True) (fun _ U o U' => ∃ v L, o = .returned v ∧ Q_rmE Z q1 q2 p3 h0 n0 v U'.heap L ∧ FrameEnd U o U' L ({ frames := 0, cells := 0, slots := 0, locals := 0 } : Room).cells ({ frames := 0, cells := 0, slots := 0, locals := 0 } : Room).slots) := by
  refine MetFree.of_bodySF (plainFor_of_name pn_4) hisR ?_
  intro p e s m args below meth c s₁ Bd hml0 hP hK
  obtain ⟨rfl, hZ, hh⟩ := hP
  have hx := Bd.exec
  have hby := Bd.bytes
  have hml : c.maxLocals = 6 := hml0
  have hown : s.vm.findClass "com/example/gentle_commit/gentlecommit/initiator/RetryWaitsAfterFailuresPinLaw" = some m.cls := findClass_of_methodNamed Bd.named
  have hnm := (name_of_methodNamed Bd.named Bd.method).1
  have X0 : Stand p l e ({ frames := 0, cells := 0, slots := 0, locals := 0 } : Room) s m #[(.long q1), (.long q2), (.int p3)] below meth c s₁ [] 0 0 := Stand.of_body Bd
  have e0 : s₁.heap = h0 := by rw [← hh, Bd.state]; rfl
  have N0 := Fr.nil n0
  have pre0 : ∀ t, Steps p.tables e below (s₁.setTop (mkF m 0 #[.val (.long q1), .second, .val (.long q2), .second, .val (.int p3), .unset] [])) t → Steps p.tables e below (s₁.setTop (entryFrame m #[(.long q1), (.long q2), (.int p3)] 6)) t := fun t k => castTop (ef_7 m q1 q2 p3) k
  obtain ⟨fs, hr, hrun, hended, hW, hsame⟩ := X0.leave (v := some (.long q2)) (fun h => by rw [Bd.returns] at h; cases h)
  refine ⟨_, _, pre0 _ ?_, hrun, hended, _, _, rfl, ?_, ⟨_, rfl⟩, hW, hsame.mono (by decide) (by decide)⟩
  · show Steps p.tables e below (s₁.setTop (mkF m 0 #[.val (.long q1), .second, .val (.long q2), .second, .val (.int p3), .unset] [])) _
    refine XS.iload X0.here hx rfl (hb hby d_method_2_code_0) rfl ?_
    show Steps p.tables e below (s₁.setTop (mkF m 2 #[.val (.long q1), .second, .val (.long q2), .second, .val (.int p3), .unset] [(.int p3)])) _
    refine XS.iconst X0.here hx rfl (hb hby d_method_2_code_2) ?_
    show Steps p.tables e below (s₁.setTop (mkF m 3 #[.val (.long q1), .second, .val (.long q2), .second, .val (.int p3), .unset] [(.int (1 : Int32)), (.int p3)])) _
    refine XS.isub X0.here hx rfl (hb hby d_method_2_code_3) rfl ?_
    show Steps p.tables e below (s₁.setTop (mkF m 4 #[.val (.long q1), .second, .val (.long q2), .second, .val (.int p3), .unset] [(.int (p3 - (1 : Int32)))])) _
    refine XS.istore X0.here hx rfl (hb hby d_method_2_code_4) rfl (l' := #[.val (.long q1), .second, .val (.long q2), .second, .val (.int p3), .val (.int (p3 - (1 : Int32)))]) rfl ?_
    show Steps p.tables e below (s₁.setTop (mkF m 6 #[.val (.long q1), .second, .val (.long q2), .second, .val (.int p3), .val (.int (p3 - (1 : Int32)))] [])) _
    refine XS.lloadN X0.here hx rfl (hb hby d_method_2_code_6) rfl ?_
    show Steps p.tables e below (s₁.setTop (mkF m 7 #[.val (.long q1), .second, .val (.long q2), .second, .val (.int p3), .val (.int (p3 - (1 : Int32)))] [(.long q1)])) _
    refine XS.lconst X0.here hx rfl (hb hby d_method_2_code_7) ?_
    show Steps p.tables e below (s₁.setTop (mkF m 8 #[.val (.long q1), .second, .val (.long q2), .second, .val (.int p3), .val (.int (p3 - (1 : Int32)))] [(.long (0 : Int64)), (.long q1)])) _
    refine XS.lcmp X0.here hx rfl (hb hby d_method_2_code_8) rfl ?_
    show Steps p.tables e below (s₁.setTop (mkF m 9 #[.val (.long q1), .second, .val (.long q2), .second, .val (.int p3), .val (.int (p3 - (1 : Int32)))] [(.int (lcmpW q1 (0 : Int64)))])) _
    refine XS.ifYes X0.here hx rfl (pc0 := 9) (pc' := 14) rfl (hb hby d_method_2_code_9) rfl ((if0 _ _).trans (feq (mt (lw_eq q1 (0 : Int64)).mp hc9)).2) (by decide) (by decide) ?_
    show Steps p.tables e below (s₁.setTop (mkF m 14 #[.val (.long q1), .second, .val (.long q2), .second, .val (.int p3), .val (.int (p3 - (1 : Int32)))] [])) _
    refine XS.iload X0.here hx rfl (hb hby d_method_2_code_14) rfl ?_
    show Steps p.tables e below (s₁.setTop (mkF m 16 #[.val (.long q1), .second, .val (.long q2), .second, .val (.int p3), .val (.int (p3 - (1 : Int32)))] [(.int (p3 - (1 : Int32)))])) _
    refine XS.bipush X0.here hx rfl (hb hby d_method_2_code_16) ?_
    show Steps p.tables e below (s₁.setTop (mkF m 18 #[.val (.long q1), .second, .val (.long q2), .second, .val (.int p3), .val (.int (p3 - (1 : Int32)))] [(.int (62 : Int32)), (.int (p3 - (1 : Int32)))])) _
    refine XS.icmpNo X0.here hx rfl (hb hby d_method_2_code_18) rfl (flt hc18).1 ?_
    show Steps p.tables e below (s₁.setTop (mkF m 21 #[.val (.long q1), .second, .val (.long q2), .second, .val (.int p3), .val (.int (p3 - (1 : Int32)))] [])) _
    refine XS.lloadN X0.here hx rfl (hb hby d_method_2_code_21) rfl ?_
    show Steps p.tables e below (s₁.setTop (mkF m 22 #[.val (.long q1), .second, .val (.long q2), .second, .val (.int p3), .val (.int (p3 - (1 : Int32)))] [(.long q2)])) _
    exact X0.lreturnOut hx Bd.returns (hb hby d_method_2_code_22) hr
  · show Q_rmE Z q1 q2 p3 h0 n0 _ s₁.heap _
    rw [e0]
    exact ⟨by rw [hres], N0, rfl⟩
theorem rmE (l : Launch) (Z : State) (a0 : Array Value) (hw : ∀ d ∈ tables_1, d.before a0 Z = true) (ws : List Jvm.Cond) (q1 : Int64) (q2 : Int64) (p3 : Int32) (h0 : Heap) (n0 : Nat) (Z0 : n0 ≤ h0.size) :
    MetFree l (⟨"com/example/gentle_commit/gentlecommit/initiator/RetryWaitsAfterFailuresPinLaw", "expected", "(JJI)J"⟩ : MethodName) (head1 (Jvm.Cond.code (⟨"com/example/gentle_commit/gentlecommit/initiator/RetryWaitsAfterFailuresPinLaw", "expected", "(JJI)J"⟩ : MethodName) method_2_code 6 (some .long) :: ws) ({ frames := 0, cells := 0, slots := 0, locals := 0 } : Room)) (fun a U => a = #[(.long q1), (.long q2), (.int p3)] ∧ Z.Warmed39 U.vm ∧ U.heap = h0) (fun _ _ _ _ _ => True) (fun _ U o U' => ∃ v L, o = .returned v ∧ Q_rmE Z q1 q2 p3 h0 n0 v U'.heap L ∧ FrameEnd U o U' L ({ frames := 0, cells := 0, slots := 0, locals := 0 } : Room).cells ({ frames := 0, cells := 0, slots := 0, locals := 0 } : Room).slots) := by
  by_cases hc9 : q1 = (0 : Int64)
  · skip
    exact rmE_t l Z a0 hw ws q1 q2 p3 h0 n0 Z0 hc9 (by simp only [own_exp, if_pos hc9])
  · skip
    by_cases hc18 : (p3 - (1 : Int32)) < (62 : Int32)
    · skip
      by_cases hc29 : (q2 >>> ((p3 - (1 : Int32)) &&& 0x3f).toInt64) < q1
      · skip
        exact rmE_ftt l Z a0 hw ws q1 q2 p3 h0 n0 Z0 hc9 hc18 hc29 (by simp only [own_exp, if_neg hc9, if_pos hc18, if_pos hc29])
      · skip
        exact rmE_ftf l Z a0 hw ws q1 q2 p3 h0 n0 Z0 hc9 hc18 hc29 (by simp only [own_exp, if_neg hc9, if_pos hc18, if_neg hc29])
    · skip
      exact rmE_ff l Z a0 hw ws q1 q2 p3 h0 n0 Z0 hc9 hc18 (by simp only [own_exp, if_neg hc9, if_neg hc18])
theorem pd_5 : parseMethodDescriptor "(JJ)V" = some ⟨[.long, .long], none⟩ := by decide +kernel
theorem pd_6 : parseMethodDescriptor "(I)J" = some ⟨[.int], some .long⟩ := by decide +kernel
theorem pd_7 : parseMethodDescriptor "(JJI)J" = some ⟨[.long, .long, .int], some .long⟩ := by decide +kernel
def Q_rm0 (Z : State) (q1 : Int64) (q2 : Int64) (p3 : Int32) (h0 : Heap) (n0 : Nat) (v : Option Value) (h : Heap) (L : List Loc) : Prop := v = some (.int (1 : Int32)) ∧ Fr n0 L ∧ Keep h0 h []
theorem ef_8 (m : MethodId) (x0 : Int64) (x1 : Int64) (x2 : Int32) : entryFrame m #[(.long x0), (.long x1), (.int x2)] maxLocals = mkF m 0 #[.val (.long x0), .second, .val (.long x1), .second, .val (.int x2), .unset, .unset, .unset, .unset, .unset, .unset, .unset, .unset] [] := by first | (simp [entryFrame, mkF, argsToLocals, Value.category, maxLocals]; done) | rfl
set_option maxRecDepth 65536 in
set_option maxHeartbeats 40000000 in
theorem rm0_tt (l : Launch) (Z : State) (a0 : Array Value) (hw : ∀ d ∈ tables_1, d.before a0 Z = true) (ws : List Jvm.Cond) (q1 : Int64) (q2 : Int64) (p3 : Int32) (h0 : Heap) (n0 : Nat) (Z0 : n0 ≤ h0.size) (hc23 : (own_c p3) = (0 : Int32)) (hc63 : (own_got (own_f q1) (own_l q2) (1 : Int32)) = (own_exp (own_f q1) (own_l q2) (1 : Int32))) :
    MetFree l x (head1 (Jvm.Cond.code x code maxLocals ret :: ws) room_1) (fun a U => a = #[(.long q1), (.long q2), (.int p3)] ∧ Z.Warmed39 U.vm ∧ U.heap = h0) (fun _ _ _ _ _ => True) (fun _ U o U' => ∃ v L, o = .returned v ∧ Q_rm0 Z q1 q2 p3 h0 n0 v U'.heap L ∧ FrameEnd U o U' L room_1.cells room_1.slots) := by
  refine MetFree.of_bodySF (plainFor_of_name pn_4) hisR ?_
  intro p e s m args below meth c s₁ Bd hml0 hP hK
  obtain ⟨rfl, hZ, hh⟩ := hP
  have hx := Bd.exec
  have hby := Bd.bytes
  have hml : c.maxLocals = 13 := hml0
  have hown : s.vm.findClass "com/example/gentle_commit/gentlecommit/initiator/RetryWaitsAfterFailuresPinLaw" = some m.cls := findClass_of_methodNamed Bd.named
  have hnm := (name_of_methodNamed Bd.named Bd.method).1
  have X0 : Stand p l e room_1 s m #[(.long q1), (.long q2), (.int p3)] below meth c s₁ [] 0 0 := Stand.of_body Bd
  have e0 : s₁.heap = h0 := by rw [← hh, Bd.state]; rfl
  have N0 := Fr.nil n0
  have pre0 : ∀ t, Steps p.tables e below (s₁.setTop (mkF m 0 #[.val (.long q1), .second, .val (.long q2), .second, .val (.int p3), .unset, .unset, .unset, .unset, .unset, .unset, .unset, .unset] [])) t → Steps p.tables e below (s₁.setTop (entryFrame m #[(.long q1), (.long q2), (.int p3)] maxLocals)) t := fun t k => castTop (ef_8 m q1 q2 p3) k
  obtain ⟨T1, h1, X1, e1, E1, A1, D1, -, st1⟩ := newO X0 hx hZ hown (hw _ (List.mem_of_getElem? (i := 3) rfl)) (hw _ (List.mem_of_getElem? (i := 4) rfl)) (hw _ (List.mem_of_getElem? (i := 5) rfl)) e0 (g := (mkF m 29 #[.val (.long q1), .second, .val (.long q2), .second, .val (.int p3), .val (.long (own_f q1)), .second, .val (.long (own_l q2)), .second, .val (.int (1 : Int32)), .unset, .unset, .unset] [])) rfl (hb hby at_29) (by decide) (by decide)
  obtain ⟨b1, gg1⟩ : ∃ z, z = h0.size := ⟨_, rfl⟩
  rw [← gg1] at A1 D1 st1
  have g_b1 : n0 ≤ b1 := Nat.le_trans Z0 (Nat.le_of_eq gg1.symm)
  have sz_b1 : h0.size ≤ b1 := Nat.le_trans (Keep.refl h0 []).1 (Nat.le_of_eq gg1.symm)
  have Q1 : Keep h0 h1 [] := (Keep.refl h0 []).ext E1
  have F_firstMillis_b1 : Fld Z h1 b1 "com/example/gentle_commit/gentlecommit/initiator/RetryWaits" "firstMillis" "J" (.long (0 : Int64)) := D1 (Or.inr (hw _ (List.mem_of_getElem? (i := 18) rfl))) (ty := .long) (by decide)
  have F_longestMillis_b1 : Fld Z h1 b1 "com/example/gentle_commit/gentlecommit/initiator/RetryWaits" "longestMillis" "J" (.long (0 : Int64)) := D1 (Or.inr (hw _ (List.mem_of_getElem? (i := 20) rfl))) (ty := .long) (by decide)
  obtain ⟨_, _, ⟨T2, L2, k2, n2⟩, -, X2, ⟨Lc2, hQ2, l2, y2, z2⟩, st2⟩ := X1.specialBack hx (y := (⟨"com/example/gentle_commit/gentlecommit/initiator/RetryWaits", "<init>", "(JJ)V"⟩ : MethodName)) rfl hown (mvT hZ (hw _ (List.mem_of_getElem? (i := 6) rfl))) (mvT hZ (hw _ (List.mem_of_getElem? (i := 7) rfl))) (mvT hZ (hw _ (List.mem_of_getElem? (i := 8) rfl))) (by decide) (backOf (W := 1) (rmI l Z a0 hw [] b1 (own_f q1) (own_l q2) h1 n0 (Nat.le_trans Z0 E1.1) F_firstMillis_b1 F_longestMillis_b1 A1 g_b1) hZ (hw _ (List.mem_of_getElem? (i := 8) rfl)) (hw _ (List.mem_of_getElem? (i := 5) rfl)) (by decide) (by decide)) (g := (mkF m 37 #[.val (.long q1), .second, .val (.long q2), .second, .val (.int p3), .val (.long (own_f q1)), .second, .val (.long (own_l q2)), .second, .val (.int (1 : Int32)), .unset, .unset, .unset] [(.long (own_l q2)), (.long (own_f q1)), (.ref b1), (.ref b1)])) rfl (by rw [hml]; rfl) (Steps.refl _) (a := b1) (argsL := [(.long (own_f q1)), (.long (own_l q2))]) (rest := [(.ref b1)]) (lenOf pd_5 rfl) rfl (by show 2 * 0 + _ ≤ _; exact Nat.le_of_eq rfl) (hb hby at_37) (fun _ _ => ⟨rfl, e1, (by decide : 1 + 0 ≤ _), (by decide : 2 + 0 ≤ _)⟩)
  dsimp only [Pt.U, Pt.locs, Pt.cells, Pt.slots] at X2 l2 y2 z2 st2 hQ2
  subst l2 y2 z2
  obtain ⟨rfl, N2q, K2, p2_0, p2_1⟩ := hQ2
  have N2 := Fr.app N0 N2q
  have Q2 : Keep h0 T2.heap [] := Q1.trans K2 (allS (Or.inr sz_b1) all0)
  obtain ⟨cq3, kq3, q3a, q3b, q3c⟩ := isOf hZ rfl (A1.keep K2)
  obtain ⟨_, _, ⟨T3, L3, k3, n3⟩, -, X3, ⟨Lc3, hQ3, l3, y3, z3⟩, st3⟩ := X2.virtualBack hx (y := (⟨"com/example/gentle_commit/gentlecommit/initiator/RetryWaits", "afterFailures", "(I)J"⟩ : MethodName)) (z := (⟨"com/example/gentle_commit/gentlecommit/initiator/RetryWaits", "afterFailures", "(I)J"⟩ : MethodName)) hown (mvT hZ (hw _ (List.mem_of_getElem? (i := 21) rfl))) (mvT hZ (hw _ (List.mem_of_getElem? (i := 22) rfl))) (notFace_of_selects (args := #[]) (mvT hZ (hw _ (List.mem_of_getElem? (i := 24) rfl)))) (mvT hZ (hw _ (List.mem_of_getElem? (i := 24) rfl))) (mvT hZ (hw _ (List.mem_of_getElem? (i := 23) rfl))) (by decide) (backOf (W := 0) (rmF l Z a0 hw [] b1 (1 : Int32) (own_f q1) (own_l q2) T2.heap n0 (Nat.le_trans (Nat.le_trans Z0 E1.1) K2.1) p2_0 p2_1) hZ (hw _ (List.mem_of_getElem? (i := 25) rfl)) (hw _ (List.mem_of_getElem? (i := 5) rfl)) (by decide) (by decide)) q3a q3c (g := (mkF m 46 #[.val (.long q1), .second, .val (.long q2), .second, .val (.int p3), .val (.long (own_f q1)), .second, .val (.long (own_l q2)), .second, .val (.int (1 : Int32)), .val (.ref b1), .unset, .unset] [(.int (1 : Int32)), (.ref b1)])) rfl (by rw [hml]; rfl) (Steps.refl _) (argsL := [(.int (1 : Int32))]) (rest := []) (lenOf pd_6 rfl) rfl (by show 2 * 0 + _ ≤ _; exact Nat.le_of_eq rfl) (hb hby at_46) (fun _ _ => ⟨rfl, rfl, (by decide : 1 + 0 ≤ _), (by decide : 2 + 0 ≤ _)⟩)
  dsimp only [Pt.U, Pt.locs, Pt.cells, Pt.slots] at X3 l3 y3 z3 st3 hQ3
  subst l3 y3 z3
  obtain ⟨rfl, N3q, e3⟩ := hQ3
  have N3 := Fr.app N2 N3q
  obtain ⟨_, _, ⟨T4, L4, k4, n4⟩, -, X4, ⟨Lc4, hQ4, l4, y4, z4⟩, st4⟩ := Jvm.LawKit.callS X3 hx (y := (⟨"com/example/gentle_commit/gentlecommit/initiator/RetryWaitsAfterFailuresPinLaw", "expected", "(JJI)J"⟩ : MethodName)) hown (mvT hZ (hw _ (List.mem_of_getElem? (i := 42) rfl))) (mvT hZ (hw _ (List.mem_of_getElem? (i := 43) rfl))) (mvT hZ (hw _ (List.mem_of_getElem? (i := 44) rfl))) (mvT hZ (hw _ (List.mem_of_getElem? (i := 45) rfl))) (by decide) (backOf (W := 2) (rmE l Z a0 hw [] (own_f q1) (own_l q2) (1 : Int32) T2.heap n0 (Nat.le_trans (Nat.le_trans Z0 E1.1) K2.1) ) hZ (hw _ (List.mem_of_getElem? (i := 45) rfl)) (hw _ (List.mem_of_getElem? (i := 44) rfl)) (by decide) (by decide)) (g := (mkF m 59 #[.val (.long q1), .second, .val (.long q2), .second, .val (.int p3), .val (.long (own_f q1)), .second, .val (.long (own_l q2)), .second, .val (.int (1 : Int32)), .val (.ref b1), .val (.long (own_got (own_f q1) (own_l q2) (1 : Int32))), .second] [(.int (1 : Int32)), (.long (own_l q2)), (.long (own_f q1)), (.long (own_got (own_f q1) (own_l q2) (1 : Int32)))])) rfl (by rw [hml]; rfl) (argsL := [(.long (own_f q1)), (.long (own_l q2)), (.int (1 : Int32))]) (rest := [(.long (own_got (own_f q1) (own_l q2) (1 : Int32)))]) (lenOf pd_7 rfl) rfl (by show 2 * 0 + _ ≤ _; exact Nat.le_of_eq rfl) (hb hby at_59) (fun _ _ => ⟨rfl, e3, (by decide : 1 + 0 ≤ _), (by decide : 2 + 0 ≤ _)⟩)
  dsimp only [Pt.U, Pt.locs, Pt.cells, Pt.slots] at X4 l4 y4 z4 st4 hQ4
  subst l4 y4 z4
  obtain ⟨rfl, N4q, e4⟩ := hQ4
  have N4 := Fr.app N3 N4q
  obtain ⟨fs, hr, hrun, hended, hW, hsame⟩ := X4.leave (v := some (.int (1 : Int32))) (fun h => by rw [Bd.returns] at h; cases h)
  refine ⟨_, _, pre0 _ ?_, hrun, hended, _, _, rfl, ?_, ⟨_, rfl⟩, hW, hsame.mono (by decide) (by decide)⟩
  · show Steps p.tables e below (s₁.setTop (mkF m 0 #[.val (.long q1), .second, .val (.long q2), .second, .val (.int p3), .unset, .unset, .unset, .unset, .unset, .unset, .unset, .unset] [])) _
    refine XS.lloadN X0.here hx rfl (hb hby at_0) rfl ?_
    show Steps p.tables e below (s₁.setTop (mkF m 1 #[.val (.long q1), .second, .val (.long q2), .second, .val (.int p3), .unset, .unset, .unset, .unset, .unset, .unset, .unset, .unset] [(.long q1)])) _
    refine X0.ldc2J hx hown (mvT hZ (hw _ (List.mem_of_getElem? (i := 0) rfl))) (g := (mkF m 1 #[.val (.long q1), .second, .val (.long q2), .second, .val (.int p3), .unset, .unset, .unset, .unset, .unset, .unset, .unset, .unset] [(.long q1)])) rfl (hb hby at_1) ?_
    show Steps p.tables e below (s₁.setTop (mkF m 4 #[.val (.long q1), .second, .val (.long q2), .second, .val (.int p3), .unset, .unset, .unset, .unset, .unset, .unset, .unset, .unset] [(.long (9223372036854775807 : Int64)), (.long q1)])) _
    refine XS.land X0.here hx rfl (hb hby at_4) rfl ?_
    show Steps p.tables e below (s₁.setTop (mkF m 5 #[.val (.long q1), .second, .val (.long q2), .second, .val (.int p3), .unset, .unset, .unset, .unset, .unset, .unset, .unset, .unset] [(.long (own_f q1))])) _
    refine XS.lstore X0.here hx rfl (hb hby at_5) rfl (l' := #[.val (.long q1), .second, .val (.long q2), .second, .val (.int p3), .val (.long (own_f q1)), .second, .unset, .unset, .unset, .unset, .unset, .unset]) rfl ?_
    show Steps p.tables e below (s₁.setTop (mkF m 7 #[.val (.long q1), .second, .val (.long q2), .second, .val (.int p3), .val (.long (own_f q1)), .second, .unset, .unset, .unset, .unset, .unset, .unset] [])) _
    refine XS.lloadN X0.here hx rfl (hb hby at_7) rfl ?_
    show Steps p.tables e below (s₁.setTop (mkF m 8 #[.val (.long q1), .second, .val (.long q2), .second, .val (.int p3), .val (.long (own_f q1)), .second, .unset, .unset, .unset, .unset, .unset, .unset] [(.long q2)])) _
    refine X0.ldc2J hx hown (mvT hZ (hw _ (List.mem_of_getElem? (i := 1) rfl))) (g := (mkF m 8 #[.val (.long q1), .second, .val (.long q2), .second, .val (.int p3), .val (.long (own_f q1)), .second, .unset, .unset, .unset, .unset, .unset, .unset] [(.long q2)])) rfl (hb hby at_8) ?_
    show Steps p.tables e below (s₁.setTop (mkF m 11 #[.val (.long q1), .second, .val (.long q2), .second, .val (.int p3), .val (.long (own_f q1)), .second, .unset, .unset, .unset, .unset, .unset, .unset] [(.long (4611686018427387903 : Int64)), (.long q2)])) _
    refine XS.land X0.here hx rfl (hb hby at_11) rfl ?_
    show Steps p.tables e below (s₁.setTop (mkF m 12 #[.val (.long q1), .second, .val (.long q2), .second, .val (.int p3), .val (.long (own_f q1)), .second, .unset, .unset, .unset, .unset, .unset, .unset] [(.long (own_l q2))])) _
    refine XS.lstore X0.here hx rfl (hb hby at_12) rfl (l' := #[.val (.long q1), .second, .val (.long q2), .second, .val (.int p3), .val (.long (own_f q1)), .second, .val (.long (own_l q2)), .second, .unset, .unset, .unset, .unset]) rfl ?_
    show Steps p.tables e below (s₁.setTop (mkF m 14 #[.val (.long q1), .second, .val (.long q2), .second, .val (.int p3), .val (.long (own_f q1)), .second, .val (.long (own_l q2)), .second, .unset, .unset, .unset, .unset] [])) _
    refine XS.iload X0.here hx rfl (hb hby at_14) rfl ?_
    show Steps p.tables e below (s₁.setTop (mkF m 16 #[.val (.long q1), .second, .val (.long q2), .second, .val (.int p3), .val (.long (own_f q1)), .second, .val (.long (own_l q2)), .second, .unset, .unset, .unset, .unset] [(.int p3)])) _
    refine X0.ldcI hx hown (mvT hZ (hw _ (List.mem_of_getElem? (i := 2) rfl))) (g := (mkF m 16 #[.val (.long q1), .second, .val (.long q2), .second, .val (.int p3), .val (.long (own_f q1)), .second, .val (.long (own_l q2)), .second, .unset, .unset, .unset, .unset] [(.int p3)])) rfl (hb hby at_16) ?_
    show Steps p.tables e below (s₁.setTop (mkF m 18 #[.val (.long q1), .second, .val (.long q2), .second, .val (.int p3), .val (.long (own_f q1)), .second, .val (.long (own_l q2)), .second, .unset, .unset, .unset, .unset] [(.int (2147483647 : Int32)), (.int p3)])) _
    refine XS.iand X0.here hx rfl (hb hby at_18) rfl ?_
    show Steps p.tables e below (s₁.setTop (mkF m 19 #[.val (.long q1), .second, .val (.long q2), .second, .val (.int p3), .val (.long (own_f q1)), .second, .val (.long (own_l q2)), .second, .unset, .unset, .unset, .unset] [(.int (own_c p3))])) _
    refine XS.istore X0.here hx rfl (hb hby at_19) rfl (l' := #[.val (.long q1), .second, .val (.long q2), .second, .val (.int p3), .val (.long (own_f q1)), .second, .val (.long (own_l q2)), .second, .val (.int (own_c p3)), .unset, .unset, .unset]) rfl ?_
    show Steps p.tables e below (s₁.setTop (mkF m 21 #[.val (.long q1), .second, .val (.long q2), .second, .val (.int p3), .val (.long (own_f q1)), .second, .val (.long (own_l q2)), .second, .val (.int (own_c p3)), .unset, .unset, .unset] [])) _
    refine XS.iload X0.here hx rfl (hb hby at_21) rfl ?_
    show Steps p.tables e below (s₁.setTop (mkF m 23 #[.val (.long q1), .second, .val (.long q2), .second, .val (.int p3), .val (.long (own_f q1)), .second, .val (.long (own_l q2)), .second, .val (.int (own_c p3)), .unset, .unset, .unset] [(.int (own_c p3))])) _
    refine XS.ifNo X0.here hx rfl (hb hby at_23) rfl ((if0 _ _).trans (teq hc23).2) ?_
    show Steps p.tables e below (s₁.setTop (mkF m 26 #[.val (.long q1), .second, .val (.long q2), .second, .val (.int p3), .val (.long (own_f q1)), .second, .val (.long (own_l q2)), .second, .val (.int (own_c p3)), .unset, .unset, .unset] [])) _
    refine XS.iconst X0.here hx rfl (hb hby at_26) ?_
    show Steps p.tables e below (s₁.setTop (mkF m 27 #[.val (.long q1), .second, .val (.long q2), .second, .val (.int p3), .val (.long (own_f q1)), .second, .val (.long (own_l q2)), .second, .val (.int (own_c p3)), .unset, .unset, .unset] [(.int (1 : Int32))])) _
    refine XS.istore X0.here hx rfl (hb hby at_27) rfl (l' := #[.val (.long q1), .second, .val (.long q2), .second, .val (.int p3), .val (.long (own_f q1)), .second, .val (.long (own_l q2)), .second, .val (.int (1 : Int32)), .unset, .unset, .unset]) rfl ?_
    show Steps p.tables e below (s₁.setTop (mkF m 29 #[.val (.long q1), .second, .val (.long q2), .second, .val (.int p3), .val (.long (own_f q1)), .second, .val (.long (own_l q2)), .second, .val (.int (1 : Int32)), .unset, .unset, .unset] [])) _
    refine st1 _ ?_
    show Steps p.tables e below (T1.setTop (mkF m 32 #[.val (.long q1), .second, .val (.long q2), .second, .val (.int p3), .val (.long (own_f q1)), .second, .val (.long (own_l q2)), .second, .val (.int (1 : Int32)), .unset, .unset, .unset] [(.ref b1)])) _
    refine XS.dup X1.here hx rfl (hb hby at_32) rfl rfl ?_
    show Steps p.tables e below (T1.setTop (mkF m 33 #[.val (.long q1), .second, .val (.long q2), .second, .val (.int p3), .val (.long (own_f q1)), .second, .val (.long (own_l q2)), .second, .val (.int (1 : Int32)), .unset, .unset, .unset] [(.ref b1), (.ref b1)])) _
    refine XS.lload X1.here hx rfl (hb hby at_33) rfl ?_
    show Steps p.tables e below (T1.setTop (mkF m 35 #[.val (.long q1), .second, .val (.long q2), .second, .val (.int p3), .val (.long (own_f q1)), .second, .val (.long (own_l q2)), .second, .val (.int (1 : Int32)), .unset, .unset, .unset] [(.long (own_f q1)), (.ref b1), (.ref b1)])) _
    refine XS.lload X1.here hx rfl (hb hby at_35) rfl ?_
    show Steps p.tables e below (T1.setTop (mkF m 37 #[.val (.long q1), .second, .val (.long q2), .second, .val (.int p3), .val (.long (own_f q1)), .second, .val (.long (own_l q2)), .second, .val (.int (1 : Int32)), .unset, .unset, .unset] [(.long (own_l q2)), (.long (own_f q1)), (.ref b1), (.ref b1)])) _
    refine st2.trans ?_
    show Steps p.tables e below (T2.setTop (mkF m 40 #[.val (.long q1), .second, .val (.long q2), .second, .val (.int p3), .val (.long (own_f q1)), .second, .val (.long (own_l q2)), .second, .val (.int (1 : Int32)), .unset, .unset, .unset] [(.ref b1)])) _
    refine XS.astore X2.here hx rfl (hb hby at_40) rfl rfl (l' := #[.val (.long q1), .second, .val (.long q2), .second, .val (.int p3), .val (.long (own_f q1)), .second, .val (.long (own_l q2)), .second, .val (.int (1 : Int32)), .val (.ref b1), .unset, .unset]) rfl ?_
    show Steps p.tables e below (T2.setTop (mkF m 42 #[.val (.long q1), .second, .val (.long q2), .second, .val (.int p3), .val (.long (own_f q1)), .second, .val (.long (own_l q2)), .second, .val (.int (1 : Int32)), .val (.ref b1), .unset, .unset] [])) _
    refine XS.aload X2.here hx rfl (hb hby at_42) rfl rfl ?_
    show Steps p.tables e below (T2.setTop (mkF m 44 #[.val (.long q1), .second, .val (.long q2), .second, .val (.int p3), .val (.long (own_f q1)), .second, .val (.long (own_l q2)), .second, .val (.int (1 : Int32)), .val (.ref b1), .unset, .unset] [(.ref b1)])) _
    refine XS.iload X2.here hx rfl (hb hby at_44) rfl ?_
    show Steps p.tables e below (T2.setTop (mkF m 46 #[.val (.long q1), .second, .val (.long q2), .second, .val (.int p3), .val (.long (own_f q1)), .second, .val (.long (own_l q2)), .second, .val (.int (1 : Int32)), .val (.ref b1), .unset, .unset] [(.int (1 : Int32)), (.ref b1)])) _
    refine st3.trans ?_
    show Steps p.tables e below (T3.setTop (mkF m 49 #[.val (.long q1), .second, .val (.long q2), .second, .val (.int p3), .val (.long (own_f q1)), .second, .val (.long (own_l q2)), .second, .val (.int (1 : Int32)), .val (.ref b1), .unset, .unset] [(.long (own_got (own_f q1) (own_l q2) (1 : Int32)))])) _
    refine XS.lstore X3.here hx rfl (hb hby at_49) rfl (l' := #[.val (.long q1), .second, .val (.long q2), .second, .val (.int p3), .val (.long (own_f q1)), .second, .val (.long (own_l q2)), .second, .val (.int (1 : Int32)), .val (.ref b1), .val (.long (own_got (own_f q1) (own_l q2) (1 : Int32))), .second]) rfl ?_
    show Steps p.tables e below (T3.setTop (mkF m 51 #[.val (.long q1), .second, .val (.long q2), .second, .val (.int p3), .val (.long (own_f q1)), .second, .val (.long (own_l q2)), .second, .val (.int (1 : Int32)), .val (.ref b1), .val (.long (own_got (own_f q1) (own_l q2) (1 : Int32))), .second] [])) _
    refine XS.lload X3.here hx rfl (hb hby at_51) rfl ?_
    show Steps p.tables e below (T3.setTop (mkF m 53 #[.val (.long q1), .second, .val (.long q2), .second, .val (.int p3), .val (.long (own_f q1)), .second, .val (.long (own_l q2)), .second, .val (.int (1 : Int32)), .val (.ref b1), .val (.long (own_got (own_f q1) (own_l q2) (1 : Int32))), .second] [(.long (own_got (own_f q1) (own_l q2) (1 : Int32)))])) _
    refine XS.lload X3.here hx rfl (hb hby at_53) rfl ?_
    show Steps p.tables e below (T3.setTop (mkF m 55 #[.val (.long q1), .second, .val (.long q2), .second, .val (.int p3), .val (.long (own_f q1)), .second, .val (.long (own_l q2)), .second, .val (.int (1 : Int32)), .val (.ref b1), .val (.long (own_got (own_f q1) (own_l q2) (1 : Int32))), .second] [(.long (own_f q1)), (.long (own_got (own_f q1) (own_l q2) (1 : Int32)))])) _
    refine XS.lload X3.here hx rfl (hb hby at_55) rfl ?_
    show Steps p.tables e below (T3.setTop (mkF m 57 #[.val (.long q1), .second, .val (.long q2), .second, .val (.int p3), .val (.long (own_f q1)), .second, .val (.long (own_l q2)), .second, .val (.int (1 : Int32)), .val (.ref b1), .val (.long (own_got (own_f q1) (own_l q2) (1 : Int32))), .second] [(.long (own_l q2)), (.long (own_f q1)), (.long (own_got (own_f q1) (own_l q2) (1 : Int32)))])) _
    refine XS.iload X3.here hx rfl (hb hby at_57) rfl ?_
    show Steps p.tables e below (T3.setTop (mkF m 59 #[.val (.long q1), .second, .val (.long q2), .second, .val (.int p3), .val (.long (own_f q1)), .second, .val (.long (own_l q2)), .second, .val (.int (1 : Int32)), .val (.ref b1), .val (.long (own_got (own_f q1) (own_l q2) (1 : Int32))), .second] [(.int (1 : Int32)), (.long (own_l q2)), (.long (own_f q1)), (.long (own_got (own_f q1) (own_l q2) (1 : Int32)))])) _
    refine st4 _ ?_
    show Steps p.tables e below (T4.setTop (mkF m 62 #[.val (.long q1), .second, .val (.long q2), .second, .val (.int p3), .val (.long (own_f q1)), .second, .val (.long (own_l q2)), .second, .val (.int (1 : Int32)), .val (.ref b1), .val (.long (own_got (own_f q1) (own_l q2) (1 : Int32))), .second] [(.long (own_exp (own_f q1) (own_l q2) (1 : Int32))), (.long (own_got (own_f q1) (own_l q2) (1 : Int32)))])) _
    refine XS.lcmp X4.here hx rfl (hb hby at_62) rfl ?_
    show Steps p.tables e below (T4.setTop (mkF m 63 #[.val (.long q1), .second, .val (.long q2), .second, .val (.int p3), .val (.long (own_f q1)), .second, .val (.long (own_l q2)), .second, .val (.int (1 : Int32)), .val (.ref b1), .val (.long (own_got (own_f q1) (own_l q2) (1 : Int32))), .second] [(.int (lcmpW (own_got (own_f q1) (own_l q2) (1 : Int32)) (own_exp (own_f q1) (own_l q2) (1 : Int32))))])) _
    refine XS.ifNo X4.here hx rfl (hb hby at_63) rfl ((if0 _ _).trans (teq ((lw_eq (own_got (own_f q1) (own_l q2) (1 : Int32)) (own_exp (own_f q1) (own_l q2) (1 : Int32))).mpr hc63)).2) ?_
    show Steps p.tables e below (T4.setTop (mkF m 66 #[.val (.long q1), .second, .val (.long q2), .second, .val (.int p3), .val (.long (own_f q1)), .second, .val (.long (own_l q2)), .second, .val (.int (1 : Int32)), .val (.ref b1), .val (.long (own_got (own_f q1) (own_l q2) (1 : Int32))), .second] [])) _
    refine XS.iconst X4.here hx rfl (hb hby at_66) ?_
    show Steps p.tables e below (T4.setTop (mkF m 67 #[.val (.long q1), .second, .val (.long q2), .second, .val (.int p3), .val (.long (own_f q1)), .second, .val (.long (own_l q2)), .second, .val (.int (1 : Int32)), .val (.ref b1), .val (.long (own_got (own_f q1) (own_l q2) (1 : Int32))), .second] [(.int (1 : Int32))])) _
    refine XS.goto X4.here hx rfl (pc0 := 67) (pc' := 71) rfl (hb hby at_67) (by decide) (by decide) ?_
    show Steps p.tables e below (T4.setTop (mkF m 71 #[.val (.long q1), .second, .val (.long q2), .second, .val (.int p3), .val (.long (own_f q1)), .second, .val (.long (own_l q2)), .second, .val (.int (1 : Int32)), .val (.ref b1), .val (.long (own_got (own_f q1) (own_l q2) (1 : Int32))), .second] [(.int (1 : Int32))])) _
    exact retN X4 hx (t := .boolean) Bd.returns (by simp) (hb hby at_71) hr
  · show Q_rm0 Z q1 q2 p3 h0 n0 _ T4.heap _
    rw [e4]
    exact ⟨rfl, N4, Q2⟩
set_option maxRecDepth 65536 in
set_option maxHeartbeats 40000000 in
theorem rm0_ft (l : Launch) (Z : State) (a0 : Array Value) (hw : ∀ d ∈ tables_1, d.before a0 Z = true) (ws : List Jvm.Cond) (q1 : Int64) (q2 : Int64) (p3 : Int32) (h0 : Heap) (n0 : Nat) (Z0 : n0 ≤ h0.size) (hc23 : ¬ ((own_c p3) = (0 : Int32))) (hc63 : (own_got (own_f q1) (own_l q2) (own_c p3)) = (own_exp (own_f q1) (own_l q2) (own_c p3))) :
    MetFree l x (head1 (Jvm.Cond.code x code maxLocals ret :: ws) room_1) (fun a U => a = #[(.long q1), (.long q2), (.int p3)] ∧ Z.Warmed39 U.vm ∧ U.heap = h0) (fun _ _ _ _ _ => True) (fun _ U o U' => ∃ v L, o = .returned v ∧ Q_rm0 Z q1 q2 p3 h0 n0 v U'.heap L ∧ FrameEnd U o U' L room_1.cells room_1.slots) := by
  refine MetFree.of_bodySF (plainFor_of_name pn_4) hisR ?_
  intro p e s m args below meth c s₁ Bd hml0 hP hK
  obtain ⟨rfl, hZ, hh⟩ := hP
  have hx := Bd.exec
  have hby := Bd.bytes
  have hml : c.maxLocals = 13 := hml0
  have hown : s.vm.findClass "com/example/gentle_commit/gentlecommit/initiator/RetryWaitsAfterFailuresPinLaw" = some m.cls := findClass_of_methodNamed Bd.named
  have hnm := (name_of_methodNamed Bd.named Bd.method).1
  have X0 : Stand p l e room_1 s m #[(.long q1), (.long q2), (.int p3)] below meth c s₁ [] 0 0 := Stand.of_body Bd
  have e0 : s₁.heap = h0 := by rw [← hh, Bd.state]; rfl
  have N0 := Fr.nil n0
  have pre0 : ∀ t, Steps p.tables e below (s₁.setTop (mkF m 0 #[.val (.long q1), .second, .val (.long q2), .second, .val (.int p3), .unset, .unset, .unset, .unset, .unset, .unset, .unset, .unset] [])) t → Steps p.tables e below (s₁.setTop (entryFrame m #[(.long q1), (.long q2), (.int p3)] maxLocals)) t := fun t k => castTop (ef_8 m q1 q2 p3) k
  obtain ⟨T1, h1, X1, e1, E1, A1, D1, -, st1⟩ := newO X0 hx hZ hown (hw _ (List.mem_of_getElem? (i := 3) rfl)) (hw _ (List.mem_of_getElem? (i := 4) rfl)) (hw _ (List.mem_of_getElem? (i := 5) rfl)) e0 (g := (mkF m 29 #[.val (.long q1), .second, .val (.long q2), .second, .val (.int p3), .val (.long (own_f q1)), .second, .val (.long (own_l q2)), .second, .val (.int (own_c p3)), .unset, .unset, .unset] [])) rfl (hb hby at_29) (by decide) (by decide)
  obtain ⟨b1, gg1⟩ : ∃ z, z = h0.size := ⟨_, rfl⟩
  rw [← gg1] at A1 D1 st1
  have g_b1 : n0 ≤ b1 := Nat.le_trans Z0 (Nat.le_of_eq gg1.symm)
  have sz_b1 : h0.size ≤ b1 := Nat.le_trans (Keep.refl h0 []).1 (Nat.le_of_eq gg1.symm)
  have Q1 : Keep h0 h1 [] := (Keep.refl h0 []).ext E1
  have F_firstMillis_b1 : Fld Z h1 b1 "com/example/gentle_commit/gentlecommit/initiator/RetryWaits" "firstMillis" "J" (.long (0 : Int64)) := D1 (Or.inr (hw _ (List.mem_of_getElem? (i := 18) rfl))) (ty := .long) (by decide)
  have F_longestMillis_b1 : Fld Z h1 b1 "com/example/gentle_commit/gentlecommit/initiator/RetryWaits" "longestMillis" "J" (.long (0 : Int64)) := D1 (Or.inr (hw _ (List.mem_of_getElem? (i := 20) rfl))) (ty := .long) (by decide)
  obtain ⟨_, _, ⟨T2, L2, k2, n2⟩, -, X2, ⟨Lc2, hQ2, l2, y2, z2⟩, st2⟩ := X1.specialBack hx (y := (⟨"com/example/gentle_commit/gentlecommit/initiator/RetryWaits", "<init>", "(JJ)V"⟩ : MethodName)) rfl hown (mvT hZ (hw _ (List.mem_of_getElem? (i := 6) rfl))) (mvT hZ (hw _ (List.mem_of_getElem? (i := 7) rfl))) (mvT hZ (hw _ (List.mem_of_getElem? (i := 8) rfl))) (by decide) (backOf (W := 1) (rmI l Z a0 hw [] b1 (own_f q1) (own_l q2) h1 n0 (Nat.le_trans Z0 E1.1) F_firstMillis_b1 F_longestMillis_b1 A1 g_b1) hZ (hw _ (List.mem_of_getElem? (i := 8) rfl)) (hw _ (List.mem_of_getElem? (i := 5) rfl)) (by decide) (by decide)) (g := (mkF m 37 #[.val (.long q1), .second, .val (.long q2), .second, .val (.int p3), .val (.long (own_f q1)), .second, .val (.long (own_l q2)), .second, .val (.int (own_c p3)), .unset, .unset, .unset] [(.long (own_l q2)), (.long (own_f q1)), (.ref b1), (.ref b1)])) rfl (by rw [hml]; rfl) (Steps.refl _) (a := b1) (argsL := [(.long (own_f q1)), (.long (own_l q2))]) (rest := [(.ref b1)]) (lenOf pd_5 rfl) rfl (by show 2 * 0 + _ ≤ _; exact Nat.le_of_eq rfl) (hb hby at_37) (fun _ _ => ⟨rfl, e1, (by decide : 1 + 0 ≤ _), (by decide : 2 + 0 ≤ _)⟩)
  dsimp only [Pt.U, Pt.locs, Pt.cells, Pt.slots] at X2 l2 y2 z2 st2 hQ2
  subst l2 y2 z2
  obtain ⟨rfl, N2q, K2, p2_0, p2_1⟩ := hQ2
  have N2 := Fr.app N0 N2q
  have Q2 : Keep h0 T2.heap [] := Q1.trans K2 (allS (Or.inr sz_b1) all0)
  obtain ⟨cq3, kq3, q3a, q3b, q3c⟩ := isOf hZ rfl (A1.keep K2)
  obtain ⟨_, _, ⟨T3, L3, k3, n3⟩, -, X3, ⟨Lc3, hQ3, l3, y3, z3⟩, st3⟩ := X2.virtualBack hx (y := (⟨"com/example/gentle_commit/gentlecommit/initiator/RetryWaits", "afterFailures", "(I)J"⟩ : MethodName)) (z := (⟨"com/example/gentle_commit/gentlecommit/initiator/RetryWaits", "afterFailures", "(I)J"⟩ : MethodName)) hown (mvT hZ (hw _ (List.mem_of_getElem? (i := 21) rfl))) (mvT hZ (hw _ (List.mem_of_getElem? (i := 22) rfl))) (notFace_of_selects (args := #[]) (mvT hZ (hw _ (List.mem_of_getElem? (i := 24) rfl)))) (mvT hZ (hw _ (List.mem_of_getElem? (i := 24) rfl))) (mvT hZ (hw _ (List.mem_of_getElem? (i := 23) rfl))) (by decide) (backOf (W := 0) (rmF l Z a0 hw [] b1 (own_c p3) (own_f q1) (own_l q2) T2.heap n0 (Nat.le_trans (Nat.le_trans Z0 E1.1) K2.1) p2_0 p2_1) hZ (hw _ (List.mem_of_getElem? (i := 25) rfl)) (hw _ (List.mem_of_getElem? (i := 5) rfl)) (by decide) (by decide)) q3a q3c (g := (mkF m 46 #[.val (.long q1), .second, .val (.long q2), .second, .val (.int p3), .val (.long (own_f q1)), .second, .val (.long (own_l q2)), .second, .val (.int (own_c p3)), .val (.ref b1), .unset, .unset] [(.int (own_c p3)), (.ref b1)])) rfl (by rw [hml]; rfl) (Steps.refl _) (argsL := [(.int (own_c p3))]) (rest := []) (lenOf pd_6 rfl) rfl (by show 2 * 0 + _ ≤ _; exact Nat.le_of_eq rfl) (hb hby at_46) (fun _ _ => ⟨rfl, rfl, (by decide : 1 + 0 ≤ _), (by decide : 2 + 0 ≤ _)⟩)
  dsimp only [Pt.U, Pt.locs, Pt.cells, Pt.slots] at X3 l3 y3 z3 st3 hQ3
  subst l3 y3 z3
  obtain ⟨rfl, N3q, e3⟩ := hQ3
  have N3 := Fr.app N2 N3q
  obtain ⟨_, _, ⟨T4, L4, k4, n4⟩, -, X4, ⟨Lc4, hQ4, l4, y4, z4⟩, st4⟩ := Jvm.LawKit.callS X3 hx (y := (⟨"com/example/gentle_commit/gentlecommit/initiator/RetryWaitsAfterFailuresPinLaw", "expected", "(JJI)J"⟩ : MethodName)) hown (mvT hZ (hw _ (List.mem_of_getElem? (i := 42) rfl))) (mvT hZ (hw _ (List.mem_of_getElem? (i := 43) rfl))) (mvT hZ (hw _ (List.mem_of_getElem? (i := 44) rfl))) (mvT hZ (hw _ (List.mem_of_getElem? (i := 45) rfl))) (by decide) (backOf (W := 2) (rmE l Z a0 hw [] (own_f q1) (own_l q2) (own_c p3) T2.heap n0 (Nat.le_trans (Nat.le_trans Z0 E1.1) K2.1) ) hZ (hw _ (List.mem_of_getElem? (i := 45) rfl)) (hw _ (List.mem_of_getElem? (i := 44) rfl)) (by decide) (by decide)) (g := (mkF m 59 #[.val (.long q1), .second, .val (.long q2), .second, .val (.int p3), .val (.long (own_f q1)), .second, .val (.long (own_l q2)), .second, .val (.int (own_c p3)), .val (.ref b1), .val (.long (own_got (own_f q1) (own_l q2) (own_c p3))), .second] [(.int (own_c p3)), (.long (own_l q2)), (.long (own_f q1)), (.long (own_got (own_f q1) (own_l q2) (own_c p3)))])) rfl (by rw [hml]; rfl) (argsL := [(.long (own_f q1)), (.long (own_l q2)), (.int (own_c p3))]) (rest := [(.long (own_got (own_f q1) (own_l q2) (own_c p3)))]) (lenOf pd_7 rfl) rfl (by show 2 * 0 + _ ≤ _; exact Nat.le_of_eq rfl) (hb hby at_59) (fun _ _ => ⟨rfl, e3, (by decide : 1 + 0 ≤ _), (by decide : 2 + 0 ≤ _)⟩)
  dsimp only [Pt.U, Pt.locs, Pt.cells, Pt.slots] at X4 l4 y4 z4 st4 hQ4
  subst l4 y4 z4
  obtain ⟨rfl, N4q, e4⟩ := hQ4
  have N4 := Fr.app N3 N4q
  obtain ⟨fs, hr, hrun, hended, hW, hsame⟩ := X4.leave (v := some (.int (1 : Int32))) (fun h => by rw [Bd.returns] at h; cases h)
  refine ⟨_, _, pre0 _ ?_, hrun, hended, _, _, rfl, ?_, ⟨_, rfl⟩, hW, hsame.mono (by decide) (by decide)⟩
  · show Steps p.tables e below (s₁.setTop (mkF m 0 #[.val (.long q1), .second, .val (.long q2), .second, .val (.int p3), .unset, .unset, .unset, .unset, .unset, .unset, .unset, .unset] [])) _
    refine XS.lloadN X0.here hx rfl (hb hby at_0) rfl ?_
    show Steps p.tables e below (s₁.setTop (mkF m 1 #[.val (.long q1), .second, .val (.long q2), .second, .val (.int p3), .unset, .unset, .unset, .unset, .unset, .unset, .unset, .unset] [(.long q1)])) _
    refine X0.ldc2J hx hown (mvT hZ (hw _ (List.mem_of_getElem? (i := 0) rfl))) (g := (mkF m 1 #[.val (.long q1), .second, .val (.long q2), .second, .val (.int p3), .unset, .unset, .unset, .unset, .unset, .unset, .unset, .unset] [(.long q1)])) rfl (hb hby at_1) ?_
    show Steps p.tables e below (s₁.setTop (mkF m 4 #[.val (.long q1), .second, .val (.long q2), .second, .val (.int p3), .unset, .unset, .unset, .unset, .unset, .unset, .unset, .unset] [(.long (9223372036854775807 : Int64)), (.long q1)])) _
    refine XS.land X0.here hx rfl (hb hby at_4) rfl ?_
    show Steps p.tables e below (s₁.setTop (mkF m 5 #[.val (.long q1), .second, .val (.long q2), .second, .val (.int p3), .unset, .unset, .unset, .unset, .unset, .unset, .unset, .unset] [(.long (own_f q1))])) _
    refine XS.lstore X0.here hx rfl (hb hby at_5) rfl (l' := #[.val (.long q1), .second, .val (.long q2), .second, .val (.int p3), .val (.long (own_f q1)), .second, .unset, .unset, .unset, .unset, .unset, .unset]) rfl ?_
    show Steps p.tables e below (s₁.setTop (mkF m 7 #[.val (.long q1), .second, .val (.long q2), .second, .val (.int p3), .val (.long (own_f q1)), .second, .unset, .unset, .unset, .unset, .unset, .unset] [])) _
    refine XS.lloadN X0.here hx rfl (hb hby at_7) rfl ?_
    show Steps p.tables e below (s₁.setTop (mkF m 8 #[.val (.long q1), .second, .val (.long q2), .second, .val (.int p3), .val (.long (own_f q1)), .second, .unset, .unset, .unset, .unset, .unset, .unset] [(.long q2)])) _
    refine X0.ldc2J hx hown (mvT hZ (hw _ (List.mem_of_getElem? (i := 1) rfl))) (g := (mkF m 8 #[.val (.long q1), .second, .val (.long q2), .second, .val (.int p3), .val (.long (own_f q1)), .second, .unset, .unset, .unset, .unset, .unset, .unset] [(.long q2)])) rfl (hb hby at_8) ?_
    show Steps p.tables e below (s₁.setTop (mkF m 11 #[.val (.long q1), .second, .val (.long q2), .second, .val (.int p3), .val (.long (own_f q1)), .second, .unset, .unset, .unset, .unset, .unset, .unset] [(.long (4611686018427387903 : Int64)), (.long q2)])) _
    refine XS.land X0.here hx rfl (hb hby at_11) rfl ?_
    show Steps p.tables e below (s₁.setTop (mkF m 12 #[.val (.long q1), .second, .val (.long q2), .second, .val (.int p3), .val (.long (own_f q1)), .second, .unset, .unset, .unset, .unset, .unset, .unset] [(.long (own_l q2))])) _
    refine XS.lstore X0.here hx rfl (hb hby at_12) rfl (l' := #[.val (.long q1), .second, .val (.long q2), .second, .val (.int p3), .val (.long (own_f q1)), .second, .val (.long (own_l q2)), .second, .unset, .unset, .unset, .unset]) rfl ?_
    show Steps p.tables e below (s₁.setTop (mkF m 14 #[.val (.long q1), .second, .val (.long q2), .second, .val (.int p3), .val (.long (own_f q1)), .second, .val (.long (own_l q2)), .second, .unset, .unset, .unset, .unset] [])) _
    refine XS.iload X0.here hx rfl (hb hby at_14) rfl ?_
    show Steps p.tables e below (s₁.setTop (mkF m 16 #[.val (.long q1), .second, .val (.long q2), .second, .val (.int p3), .val (.long (own_f q1)), .second, .val (.long (own_l q2)), .second, .unset, .unset, .unset, .unset] [(.int p3)])) _
    refine X0.ldcI hx hown (mvT hZ (hw _ (List.mem_of_getElem? (i := 2) rfl))) (g := (mkF m 16 #[.val (.long q1), .second, .val (.long q2), .second, .val (.int p3), .val (.long (own_f q1)), .second, .val (.long (own_l q2)), .second, .unset, .unset, .unset, .unset] [(.int p3)])) rfl (hb hby at_16) ?_
    show Steps p.tables e below (s₁.setTop (mkF m 18 #[.val (.long q1), .second, .val (.long q2), .second, .val (.int p3), .val (.long (own_f q1)), .second, .val (.long (own_l q2)), .second, .unset, .unset, .unset, .unset] [(.int (2147483647 : Int32)), (.int p3)])) _
    refine XS.iand X0.here hx rfl (hb hby at_18) rfl ?_
    show Steps p.tables e below (s₁.setTop (mkF m 19 #[.val (.long q1), .second, .val (.long q2), .second, .val (.int p3), .val (.long (own_f q1)), .second, .val (.long (own_l q2)), .second, .unset, .unset, .unset, .unset] [(.int (own_c p3))])) _
    refine XS.istore X0.here hx rfl (hb hby at_19) rfl (l' := #[.val (.long q1), .second, .val (.long q2), .second, .val (.int p3), .val (.long (own_f q1)), .second, .val (.long (own_l q2)), .second, .val (.int (own_c p3)), .unset, .unset, .unset]) rfl ?_
    show Steps p.tables e below (s₁.setTop (mkF m 21 #[.val (.long q1), .second, .val (.long q2), .second, .val (.int p3), .val (.long (own_f q1)), .second, .val (.long (own_l q2)), .second, .val (.int (own_c p3)), .unset, .unset, .unset] [])) _
    refine XS.iload X0.here hx rfl (hb hby at_21) rfl ?_
    show Steps p.tables e below (s₁.setTop (mkF m 23 #[.val (.long q1), .second, .val (.long q2), .second, .val (.int p3), .val (.long (own_f q1)), .second, .val (.long (own_l q2)), .second, .val (.int (own_c p3)), .unset, .unset, .unset] [(.int (own_c p3))])) _
    refine XS.ifYes X0.here hx rfl (pc0 := 23) (pc' := 29) rfl (hb hby at_23) rfl ((if0 _ _).trans (feq hc23).2) (by decide) (by decide) ?_
    show Steps p.tables e below (s₁.setTop (mkF m 29 #[.val (.long q1), .second, .val (.long q2), .second, .val (.int p3), .val (.long (own_f q1)), .second, .val (.long (own_l q2)), .second, .val (.int (own_c p3)), .unset, .unset, .unset] [])) _
    refine st1 _ ?_
    show Steps p.tables e below (T1.setTop (mkF m 32 #[.val (.long q1), .second, .val (.long q2), .second, .val (.int p3), .val (.long (own_f q1)), .second, .val (.long (own_l q2)), .second, .val (.int (own_c p3)), .unset, .unset, .unset] [(.ref b1)])) _
    refine XS.dup X1.here hx rfl (hb hby at_32) rfl rfl ?_
    show Steps p.tables e below (T1.setTop (mkF m 33 #[.val (.long q1), .second, .val (.long q2), .second, .val (.int p3), .val (.long (own_f q1)), .second, .val (.long (own_l q2)), .second, .val (.int (own_c p3)), .unset, .unset, .unset] [(.ref b1), (.ref b1)])) _
    refine XS.lload X1.here hx rfl (hb hby at_33) rfl ?_
    show Steps p.tables e below (T1.setTop (mkF m 35 #[.val (.long q1), .second, .val (.long q2), .second, .val (.int p3), .val (.long (own_f q1)), .second, .val (.long (own_l q2)), .second, .val (.int (own_c p3)), .unset, .unset, .unset] [(.long (own_f q1)), (.ref b1), (.ref b1)])) _
    refine XS.lload X1.here hx rfl (hb hby at_35) rfl ?_
    show Steps p.tables e below (T1.setTop (mkF m 37 #[.val (.long q1), .second, .val (.long q2), .second, .val (.int p3), .val (.long (own_f q1)), .second, .val (.long (own_l q2)), .second, .val (.int (own_c p3)), .unset, .unset, .unset] [(.long (own_l q2)), (.long (own_f q1)), (.ref b1), (.ref b1)])) _
    refine st2.trans ?_
    show Steps p.tables e below (T2.setTop (mkF m 40 #[.val (.long q1), .second, .val (.long q2), .second, .val (.int p3), .val (.long (own_f q1)), .second, .val (.long (own_l q2)), .second, .val (.int (own_c p3)), .unset, .unset, .unset] [(.ref b1)])) _
    refine XS.astore X2.here hx rfl (hb hby at_40) rfl rfl (l' := #[.val (.long q1), .second, .val (.long q2), .second, .val (.int p3), .val (.long (own_f q1)), .second, .val (.long (own_l q2)), .second, .val (.int (own_c p3)), .val (.ref b1), .unset, .unset]) rfl ?_
    show Steps p.tables e below (T2.setTop (mkF m 42 #[.val (.long q1), .second, .val (.long q2), .second, .val (.int p3), .val (.long (own_f q1)), .second, .val (.long (own_l q2)), .second, .val (.int (own_c p3)), .val (.ref b1), .unset, .unset] [])) _
    refine XS.aload X2.here hx rfl (hb hby at_42) rfl rfl ?_
    show Steps p.tables e below (T2.setTop (mkF m 44 #[.val (.long q1), .second, .val (.long q2), .second, .val (.int p3), .val (.long (own_f q1)), .second, .val (.long (own_l q2)), .second, .val (.int (own_c p3)), .val (.ref b1), .unset, .unset] [(.ref b1)])) _
    refine XS.iload X2.here hx rfl (hb hby at_44) rfl ?_
    show Steps p.tables e below (T2.setTop (mkF m 46 #[.val (.long q1), .second, .val (.long q2), .second, .val (.int p3), .val (.long (own_f q1)), .second, .val (.long (own_l q2)), .second, .val (.int (own_c p3)), .val (.ref b1), .unset, .unset] [(.int (own_c p3)), (.ref b1)])) _
    refine st3.trans ?_
    show Steps p.tables e below (T3.setTop (mkF m 49 #[.val (.long q1), .second, .val (.long q2), .second, .val (.int p3), .val (.long (own_f q1)), .second, .val (.long (own_l q2)), .second, .val (.int (own_c p3)), .val (.ref b1), .unset, .unset] [(.long (own_got (own_f q1) (own_l q2) (own_c p3)))])) _
    refine XS.lstore X3.here hx rfl (hb hby at_49) rfl (l' := #[.val (.long q1), .second, .val (.long q2), .second, .val (.int p3), .val (.long (own_f q1)), .second, .val (.long (own_l q2)), .second, .val (.int (own_c p3)), .val (.ref b1), .val (.long (own_got (own_f q1) (own_l q2) (own_c p3))), .second]) rfl ?_
    show Steps p.tables e below (T3.setTop (mkF m 51 #[.val (.long q1), .second, .val (.long q2), .second, .val (.int p3), .val (.long (own_f q1)), .second, .val (.long (own_l q2)), .second, .val (.int (own_c p3)), .val (.ref b1), .val (.long (own_got (own_f q1) (own_l q2) (own_c p3))), .second] [])) _
    refine XS.lload X3.here hx rfl (hb hby at_51) rfl ?_
    show Steps p.tables e below (T3.setTop (mkF m 53 #[.val (.long q1), .second, .val (.long q2), .second, .val (.int p3), .val (.long (own_f q1)), .second, .val (.long (own_l q2)), .second, .val (.int (own_c p3)), .val (.ref b1), .val (.long (own_got (own_f q1) (own_l q2) (own_c p3))), .second] [(.long (own_got (own_f q1) (own_l q2) (own_c p3)))])) _
    refine XS.lload X3.here hx rfl (hb hby at_53) rfl ?_
    show Steps p.tables e below (T3.setTop (mkF m 55 #[.val (.long q1), .second, .val (.long q2), .second, .val (.int p3), .val (.long (own_f q1)), .second, .val (.long (own_l q2)), .second, .val (.int (own_c p3)), .val (.ref b1), .val (.long (own_got (own_f q1) (own_l q2) (own_c p3))), .second] [(.long (own_f q1)), (.long (own_got (own_f q1) (own_l q2) (own_c p3)))])) _
    refine XS.lload X3.here hx rfl (hb hby at_55) rfl ?_
    show Steps p.tables e below (T3.setTop (mkF m 57 #[.val (.long q1), .second, .val (.long q2), .second, .val (.int p3), .val (.long (own_f q1)), .second, .val (.long (own_l q2)), .second, .val (.int (own_c p3)), .val (.ref b1), .val (.long (own_got (own_f q1) (own_l q2) (own_c p3))), .second] [(.long (own_l q2)), (.long (own_f q1)), (.long (own_got (own_f q1) (own_l q2) (own_c p3)))])) _
    refine XS.iload X3.here hx rfl (hb hby at_57) rfl ?_
    show Steps p.tables e below (T3.setTop (mkF m 59 #[.val (.long q1), .second, .val (.long q2), .second, .val (.int p3), .val (.long (own_f q1)), .second, .val (.long (own_l q2)), .second, .val (.int (own_c p3)), .val (.ref b1), .val (.long (own_got (own_f q1) (own_l q2) (own_c p3))), .second] [(.int (own_c p3)), (.long (own_l q2)), (.long (own_f q1)), (.long (own_got (own_f q1) (own_l q2) (own_c p3)))])) _
    refine st4 _ ?_
    show Steps p.tables e below (T4.setTop (mkF m 62 #[.val (.long q1), .second, .val (.long q2), .second, .val (.int p3), .val (.long (own_f q1)), .second, .val (.long (own_l q2)), .second, .val (.int (own_c p3)), .val (.ref b1), .val (.long (own_got (own_f q1) (own_l q2) (own_c p3))), .second] [(.long (own_exp (own_f q1) (own_l q2) (own_c p3))), (.long (own_got (own_f q1) (own_l q2) (own_c p3)))])) _
    refine XS.lcmp X4.here hx rfl (hb hby at_62) rfl ?_
    show Steps p.tables e below (T4.setTop (mkF m 63 #[.val (.long q1), .second, .val (.long q2), .second, .val (.int p3), .val (.long (own_f q1)), .second, .val (.long (own_l q2)), .second, .val (.int (own_c p3)), .val (.ref b1), .val (.long (own_got (own_f q1) (own_l q2) (own_c p3))), .second] [(.int (lcmpW (own_got (own_f q1) (own_l q2) (own_c p3)) (own_exp (own_f q1) (own_l q2) (own_c p3))))])) _
    refine XS.ifNo X4.here hx rfl (hb hby at_63) rfl ((if0 _ _).trans (teq ((lw_eq (own_got (own_f q1) (own_l q2) (own_c p3)) (own_exp (own_f q1) (own_l q2) (own_c p3))).mpr hc63)).2) ?_
    show Steps p.tables e below (T4.setTop (mkF m 66 #[.val (.long q1), .second, .val (.long q2), .second, .val (.int p3), .val (.long (own_f q1)), .second, .val (.long (own_l q2)), .second, .val (.int (own_c p3)), .val (.ref b1), .val (.long (own_got (own_f q1) (own_l q2) (own_c p3))), .second] [])) _
    refine XS.iconst X4.here hx rfl (hb hby at_66) ?_
    show Steps p.tables e below (T4.setTop (mkF m 67 #[.val (.long q1), .second, .val (.long q2), .second, .val (.int p3), .val (.long (own_f q1)), .second, .val (.long (own_l q2)), .second, .val (.int (own_c p3)), .val (.ref b1), .val (.long (own_got (own_f q1) (own_l q2) (own_c p3))), .second] [(.int (1 : Int32))])) _
    refine XS.goto X4.here hx rfl (pc0 := 67) (pc' := 71) rfl (hb hby at_67) (by decide) (by decide) ?_
    show Steps p.tables e below (T4.setTop (mkF m 71 #[.val (.long q1), .second, .val (.long q2), .second, .val (.int p3), .val (.long (own_f q1)), .second, .val (.long (own_l q2)), .second, .val (.int (own_c p3)), .val (.ref b1), .val (.long (own_got (own_f q1) (own_l q2) (own_c p3))), .second] [(.int (1 : Int32))])) _
    exact retN X4 hx (t := .boolean) Bd.returns (by simp) (hb hby at_71) hr
  · show Q_rm0 Z q1 q2 p3 h0 n0 _ T4.heap _
    rw [e4]
    exact ⟨rfl, N4, Q2⟩
theorem rm0 (l : Launch) (Z : State) (a0 : Array Value) (hw : ∀ d ∈ tables_1, d.before a0 Z = true) (ws : List Jvm.Cond) (q1 : Int64) (q2 : Int64) (p3 : Int32) (h0 : Heap) (n0 : Nat) (Z0 : n0 ≤ h0.size) :
    MetFree l x (head1 (Jvm.Cond.code x code maxLocals ret :: ws) room_1) (fun a U => a = #[(.long q1), (.long q2), (.int p3)] ∧ Z.Warmed39 U.vm ∧ U.heap = h0) (fun _ _ _ _ _ => True) (fun _ U o U' => ∃ v L, o = .returned v ∧ Q_rm0 Z q1 q2 p3 h0 n0 v U'.heap L ∧ FrameEnd U o U' L room_1.cells room_1.slots) := by
  by_cases hc23 : (own_c p3) = (0 : Int32)
  · skip
    by_cases hc63 : (own_got (own_f q1) (own_l q2) (1 : Int32)) = (own_exp (own_f q1) (own_l q2) (1 : Int32))
    · skip
      exact rm0_tt l Z a0 hw ws q1 q2 p3 h0 n0 Z0 hc23 hc63
    · skip
      exfalso
      exact hc63 (own_law _ _ _ (own_f_rng q1) (own_l_rng q2).1 (own_l_rng q2).2 (by decide))
  · skip
    by_cases hc63 : (own_got (own_f q1) (own_l q2) (own_c p3)) = (own_exp (own_f q1) (own_l q2) (own_c p3))
    · skip
      exact rm0_ft l Z a0 hw ws q1 q2 p3 h0 n0 Z0 hc23 hc63
    · skip
      exfalso
      exact hc63 (own_law _ _ _ (own_f_rng q1) (own_l_rng q2).1 (own_l_rng q2).2 (own_c_rng p3 hc23))
set_option maxRecDepth 65536 in
set_option maxHeartbeats 40000000 in
theorem comes_1 {Post : Tables → Env → Array Value → State → Outcome → State → Prop} (hpost : ∀ tb e args s v u, (limb_1_1.after args s (.returned v) u = true ∧ limb_1_2.after args s (.returned v) u = true ∧ True) → FrameEnd s (.returned v) u (Jvm.fieldLocs frame_1_writes args s ++ Jvm.arrayLocs frame_1_arrays args s ++ Jvm.staticLocs frame_1_statics s) 16 128 → Post tb e args s (.returned v) u) :
    ArmFor flags0 classFile x code maxLocals ret World_1 tables_1 room_1 Calls_1 rest_1 Pre_1 Post := by
  intro l hfl _ _ p e ha hc hk s m args below hf hA hF happ hP
  obtain ⟨hcalls, hrest, hpre⟩ := hP
  obtain ⟨-, -, -, hnamed, -, -, -, hat⟩ := (Spec.applies_iff hf).mp happ
  obtain ⟨hg, hn⟩ := and_e (Cond.before_iff.mp (show (Jvm.Cond.and given_1 narrow_1).before args s = true from hpre))
  obtain ⟨g0, gr0⟩ := and_e hg
  obtain ⟨g1, gr1⟩ := and_e gr0
  obtain ⟨g2, gr2⟩ := and_e gr1
  obtain ⟨w0, w1, w2, rfl⟩ : ∃ w0 w1 w2 : Value, args = #[w0, w1, w2] := by
    have hs : args.size = 3 := by simpa [Cond.value, given_1] using g0
    obtain ⟨L⟩ := args
    match L, hs with
    | [w0, w1, w2], _ => exact ⟨w0, w1, w2, rfl⟩
  have hw := fun d (hd : d ∈ tables_1) => atoms_spec (ws := Jvm.Cond.code x code maxLocals ret :: tables_1) hat d (List.mem_cons_of_mem _ hd)
  have hfit : Fit s := fun {y c} hc i hi => by
    obtain ⟨ha, rfl⟩ := Array.getElem?_eq_some_iff.mp hc
    have q := List.all_eq_true.mp ((Array.all_eq_true_iff_forall_mem.mp hF) _ (Array.getElem_mem ha)) i (List.mem_range.mpr hi)
    simpa [Array.getElem?_eq_getElem hi] using q
  obtain ⟨i0, ei0⟩ := isL_v g1
  obtain rfl : w0 = (.long i0) := Option.some.inj ei0
  obtain ⟨i1, ei1⟩ := isL_v g2
  obtain rfl : w1 = (.long i1) := Option.some.inj ei1
  obtain ⟨i2, ei2⟩ := is_v gr2
  obtain rfl : w2 = (.int i2) := Option.some.inj ei2
  obtain ⟨n, o, h1, h2, h3, _, L, rfl, ⟨rfl, N, -⟩, hq⟩ := rm0 l s _ hw tables_1 i0 i1 i2  s.heap s.heap.size (Nat.le_refl _)  p e ha hc hk s m _ below hf ((Spec.applies_iff_loose hf).mp happ).1 ⟨rfl, State.Warmed39.refl s, rfl⟩ trivial
  refine ⟨n, _, h1, h2, h3, hpost _ _ _ _ _ _ ⟨Cond.after_iff.mpr rfl, Cond.after_iff.mpr (eq_i res_at (Term.int_eval (1)) rfl), trivial⟩ ⟨hq.1, hq.2.1, (hq.2.2.sift fun y hy => Or.inr (N y hy)).mono (by decide) (by decide)⟩⟩
theorem main_1_1 : Claimed_1_1 := comes_1 fun _ _ _ _ _ _ h hF => ⟨h.1, hF⟩
theorem main_1_2 : Claimed_1_2 := comes_1 fun _ _ _ _ _ _ h hF => ⟨h.2.1, hF⟩
end Jvm.Pilot.@@N@@
namespace Jvm.Pilot.@@N@@
open Jvm Jvm.ClassFile Sem Op Lib Jvm.Free Jvm.Stand Jvm.Pilot.@@N@@.Jvm.D
/-! MADE BY PROGRAM (witnessworld.py) out of the Statement's table words and the real class files: 17 classes; the members and pool entries that the words name. The judged class is class 1, her method 2. -/
namespace start1
open Jvm.ClassFile
def u (s : String) : CpInfo := .utf8 (stringToUtf16 s)
/-- a pool by its gaps: so many unusable entries, then the entry; so many at the end -/
def gap : Nat → List CpInfo → List CpInfo
  | 0, r => r
  | n + 1, r => .unusable :: gap n r
def poolList (es : List (Nat × CpInfo)) (last : Nat) : List CpInfo := es.foldr (fun e r => gap e.1 (e.2 :: r)) (gap last [])
def pool (es : List (Nat × CpInfo)) (last : Nat) : Array CpInfo := ⟨poolList es last⟩
def fileOf (pool : Array CpInfo) (this : Nat) (attrs : Array Attribute := #[]) (ms : Array MethodInfo := #[]) (fl : Nat := 33) (sup : Nat := 0) (ifs : Array Nat := #[]) (fds : Array FieldInfo := #[]) : ClassFile where
  minorVersion := 0
  majorVersion := 65
  constantPool := pool
  accessFlags := fl
  thisClass := this
  superClass := sup
  interfaces := ifs
  fields := fds
  methods := ms
  attributes := attrs
def plain (name : String) (sup : Option ClassId) : Class where
  name := name
  kind := .ordinary
  loader := none
  accessFlags := 33
  super := sup
  interfaces := #[]
  cf := none
  fields := #[]
  methods := #[]
  instanceTypes := #[]
  staticTypes := #[]
  resolved := #[]
  callSites := []
  init := .initialized
  statics := none
  mirror := none

def pool0 : Array CpInfo := pool [(5, u "<init>"), (0, u "()V"), (1, .class_ 10), (1, u "java/lang/Object")] 113

def k0c0 : Code := { maxStack := 0, maxLocals := 1, code := object_method_1_code, exceptionTable := #[], attributes := #[] }
def k0m0 : Method := { name := "<init>", desc := "()V", sig := { parameters := [], returnType := none }, accessFlags := 1, code := some k0c0 }
/-- java/lang/Object -/
def k0 : Class := { plain "java/lang/Object" none with
  accessFlags := 33
  interfaces := #[]
  cf := some (fileOf pool0 8 #[] #[{ accessFlags := 1, nameIndex := 5, descriptorIndex := 6, attributes := #[] }] 33 0 #[] #[])
  fields := #[]
  methods := #[k0m0]
  instanceTypes := #[]
  staticTypes := #[]
  resolved := Array.replicate 124 none
  statics := none }

def pool1 : Array CpInfo := pool [(2, .class_ 4), (1, u "java/lang/Object"), (0, u "<init>"), (0, u "()V"), (2, .long 9223372036854775807), (1, .long 4611686018427387903), (1, .integer 2147483647), (0, .class_ 15), (0, u "com/example/gentle_commit/gentlecommit/initiator/RetryWaits"), (0, .methodref 14 17), (0, .nameAndType 5 18), (0, u "(JJ)V"), (0, .methodref 14 20), (0, .nameAndType 21 22), (0, u "afterFailures"), (0, u "(I)J"), (0, .methodref 24 25), (0, .class_ 26), (0, .nameAndType 27 28), (0, u "com/example/gentle_commit/gentlecommit/initiator/RetryWaitsAfterFailuresPinLaw"), (0, u "expected"), (0, u "(JJI)J"), (3, u "law"), (0, u "(JJI)Z")] 2

def k1m0 : Method := { name := "<init>", desc := "()V", sig := { parameters := [], returnType := none }, accessFlags := 2, code := none }
def k1c1 : Code := { maxStack := 5, maxLocals := 6, code := method_2_code, exceptionTable := #[], attributes := #[] }
def k1m1 : Method := { name := "expected", desc := "(JJI)J", sig := { parameters := [.long, .long, .int], returnType := some .long }, accessFlags := 10, code := some k1c1 }
def k1c2 : Code := { maxStack := 7, maxLocals := 13, code := code, exceptionTable := #[], attributes := #[] }
def k1m2 : Method := { name := "law", desc := "(JJI)Z", sig := { parameters := [.long, .long, .int], returnType := some .boolean }, accessFlags := 9, code := some k1c2 }
/-- com/example/gentle_commit/gentlecommit/initiator/RetryWaitsAfterFailuresPinLaw -/
def k1 : Class := { plain "com/example/gentle_commit/gentlecommit/initiator/RetryWaitsAfterFailuresPinLaw" (some 0) with
  accessFlags := 49
  interfaces := #[]
  cf := some (fileOf pool1 24 #[] #[{ accessFlags := 2, nameIndex := 5, descriptorIndex := 6, attributes := #[] }, { accessFlags := 10, nameIndex := 27, descriptorIndex := 28, attributes := #[] }, { accessFlags := 9, nameIndex := 32, descriptorIndex := 33, attributes := #[] }] 49 2 #[] #[])
  fields := #[]
  methods := #[k1m0, k1m1, k1m2]
  instanceTypes := #[]
  staticTypes := #[]
  resolved := Array.replicate 36 none
  statics := none }

def pool2 : Array CpInfo := pool [(1, .methodref 2 3), (0, .class_ 4), (0, .nameAndType 5 6), (0, u "java/lang/Object"), (0, u "<init>"), (0, u "()V"), (0, .class_ 8), (0, u "java/lang/Record")] 13

def k2c0 : Code := { maxStack := 1, maxLocals := 1, code := jdk_30_method_1_code, exceptionTable := #[], attributes := #[] }
def k2m0 : Method := { name := "<init>", desc := "()V", sig := { parameters := [], returnType := none }, accessFlags := 4, code := some k2c0 }
/-- java/lang/Record -/
def k2 : Class := { plain "java/lang/Record" (some 0) with
  accessFlags := 1057
  interfaces := #[]
  cf := some (fileOf pool2 7 #[] #[{ accessFlags := 4, nameIndex := 5, descriptorIndex := 6, attributes := #[] }] 1057 2 #[] #[])
  fields := #[]
  methods := #[k2m0]
  instanceTypes := #[]
  staticTypes := #[]
  resolved := Array.replicate 22 none
  statics := none }

def pool3 : Array CpInfo := pool [(1, .methodref 2 3), (0, .class_ 4), (0, .nameAndType 5 6), (0, u "java/lang/Record"), (0, u "<init>"), (0, u "()V"), (0, .fieldref 8 9), (0, .class_ 10), (0, .nameAndType 11 12), (0, u "com/example/gentle_commit/gentlecommit/initiator/RetryWaits"), (0, u "firstMillis"), (0, u "J"), (0, .fieldref 8 14), (0, .nameAndType 15 12), (0, u "longestMillis"), (2, u "(JJ)V"), (0, .methodref 20 21), (0, .class_ 22), (0, .nameAndType 23 24), (0, u "java/lang/Long"), (0, u "numberOfLeadingZeros"), (0, u "(J)I"), (0, .methodref 26 27), (0, .class_ 28), (0, .nameAndType 29 30), (0, u "java/lang/Math"), (0, u "min"), (0, u "(II)I"), (0, .methodref 26 32), (0, .nameAndType 29 33), (0, u "(JJ)J"), (17, u "afterFailures"), (0, u "(I)J")] 25

def k3c0 : Code := { maxStack := 3, maxLocals := 5, code := prog_11_method_1_code, exceptionTable := #[], attributes := #[] }
def k3m0 : Method := { name := "<init>", desc := "(JJ)V", sig := { parameters := [.long, .long], returnType := none }, accessFlags := 0, code := some k3c0 }
def k3c1 : Code := { maxStack := 4, maxLocals := 3, code := prog_11_method_3_code, exceptionTable := #[], attributes := #[] }
def k3m1 : Method := { name := "afterFailures", desc := "(I)J", sig := { parameters := [.int], returnType := some .long }, accessFlags := 0, code := some k3c1 }
/-- com/example/gentle_commit/gentlecommit/initiator/RetryWaits -/
def k3 : Class := { plain "com/example/gentle_commit/gentlecommit/initiator/RetryWaits" (some 2) with
  accessFlags := 48
  interfaces := #[]
  cf := some (fileOf pool3 8 #[] #[{ accessFlags := 0, nameIndex := 5, descriptorIndex := 18, attributes := #[] }, { accessFlags := 0, nameIndex := 51, descriptorIndex := 52, attributes := #[] }] 48 2 #[] #[{ accessFlags := 18, nameIndex := 11, descriptorIndex := 12, attributes := #[] }, { accessFlags := 18, nameIndex := 15, descriptorIndex := 12, attributes := #[] }])
  fields := #[{ name := "firstMillis", type := .long, accessFlags := 18, slot := 0, constantValue := 0 }, { name := "longestMillis", type := .long, accessFlags := 18, slot := 1, constantValue := 0 }]
  methods := #[k3m0, k3m1]
  instanceTypes := #[.long, .long]
  staticTypes := #[]
  resolved := Array.replicate 78 none
  statics := none }

def pool4 : Array CpInfo := pool [(1, .class_ 2), (0, u "java/io/Serializable"), (0, .class_ 4), (0, u "java/lang/Object")] 2

/-- java/io/Serializable -/
def k4 : Class := { plain "java/io/Serializable" (some 0) with
  accessFlags := 1537
  interfaces := #[]
  cf := some (fileOf pool4 1 #[] #[] 1537 3 #[] #[])
  fields := #[]
  methods := #[]
  instanceTypes := #[]
  staticTypes := #[]
  resolved := Array.replicate 7 none
  statics := none }

def pool5 : Array CpInfo := pool [(2, .class_ 4), (1, u "java/lang/Object"), (0, u "<init>"), (0, u "()V"), (1, .class_ 10), (1, u "java/lang/Number"), (2, .class_ 14), (0, u "java/io/Serializable"), (0, u "serialVersionUID"), (0, u "J")] 20

def k5m0 : Method := { name := "<init>", desc := "()V", sig := { parameters := [], returnType := none }, accessFlags := 1, code := none }
/-- java/lang/Number -/
def k5 : Class := { plain "java/lang/Number" (some 0) with
  accessFlags := 1057
  interfaces := #[4]
  cf := some (fileOf pool5 8 #[] #[{ accessFlags := 1, nameIndex := 5, descriptorIndex := 6, attributes := #[] }] 1057 2 #[13] #[{ accessFlags := 26, nameIndex := 15, descriptorIndex := 16, attributes := #[] }])
  fields := #[{ name := "serialVersionUID", type := .long, accessFlags := 26, slot := 0, constantValue := 0 }]
  methods := #[k5m0]
  instanceTypes := #[]
  staticTypes := #[.long]
  resolved := Array.replicate 37 none
  statics := none }

def pool6 : Array CpInfo := pool [(1, .class_ 2), (0, u "java/lang/Comparable"), (0, .class_ 4), (0, u "java/lang/Object")] 7

/-- java/lang/Comparable -/
def k6 : Class := { plain "java/lang/Comparable" (some 0) with
  accessFlags := 1537
  interfaces := #[]
  cf := some (fileOf pool6 1 #[] #[] 1537 3 #[] #[])
  fields := #[]
  methods := #[]
  instanceTypes := #[]
  staticTypes := #[]
  resolved := Array.replicate 12 none
  statics := none }

def pool7 : Array CpInfo := pool [(1, .class_ 2), (0, u "java/lang/constant/Constable"), (0, .class_ 4), (0, u "java/lang/Object")] 6

/-- java/lang/constant/Constable -/
def k7 : Class := { plain "java/lang/constant/Constable" (some 0) with
  accessFlags := 1537
  interfaces := #[]
  cf := some (fileOf pool7 1 #[] #[] 1537 3 #[] #[])
  fields := #[]
  methods := #[]
  instanceTypes := #[]
  staticTypes := #[]
  resolved := Array.replicate 11 none
  statics := none }

def pool8 : Array CpInfo := pool [(1, .class_ 2), (0, u "java/lang/constant/ConstantDesc"), (0, .class_ 4), (0, u "java/lang/Object")] 32

/-- java/lang/constant/ConstantDesc -/
def k8 : Class := { plain "java/lang/constant/ConstantDesc" (some 0) with
  accessFlags := 1537
  interfaces := #[]
  cf := some (fileOf pool8 1 #[] #[] 1537 3 #[] #[])
  fields := #[]
  methods := #[]
  instanceTypes := #[]
  staticTypes := #[]
  resolved := Array.replicate 37 none
  statics := none }

def pool9 : Array CpInfo := pool [(1, .class_ 2), (0, u "java/lang/Long"), (15, .class_ 20), (1, u "java/lang/Integer"), (79, u "numberOfLeadingZeros"), (0, u "(J)I"), (133, .class_ 237), (1, u "java/lang/Long$LongCache"), (33, .class_ 272), (0, u "java/lang/Number"), (2, u "value"), (0, u "J"), (31, .methodref 18 309), (0, .nameAndType 100 310), (0, u "(I)I"), (50, u "TYPE"), (0, u "Ljava/lang/Class;"), (0, .class_ 364), (0, u "java/lang/Comparable"), (0, .class_ 366), (0, u "java/lang/constant/Constable"), (0, .class_ 368), (0, u "java/lang/constant/ConstantDesc"), (0, u "MIN_VALUE"), (1, u "MAX_VALUE"), (4, u "SIZE"), (0, u "I"), (1, u "BYTES"), (1, u "serialVersionUID")] 142

def k9c0 : Code := { maxStack := 3, maxLocals := 3, code := jdk_35_method_48_code, exceptionTable := #[], attributes := #[] }
def k9m0 : Method := { name := "numberOfLeadingZeros", desc := "(J)I", sig := { parameters := [.long], returnType := some .int }, accessFlags := 9, code := some k9c0 }
/-- java/lang/Long -/
def k9 : Class := { plain "java/lang/Long" (some 5) with
  accessFlags := 49
  interfaces := #[6, 7, 8]
  cf := some (fileOf pool9 1 #[.nestMembers #[235]] #[{ accessFlags := 9, nameIndex := 100, descriptorIndex := 101, attributes := #[] }] 49 271 #[363, 365, 367] #[{ accessFlags := 25, nameIndex := 369, descriptorIndex := 276, attributes := #[] }, { accessFlags := 25, nameIndex := 371, descriptorIndex := 276, attributes := #[] }, { accessFlags := 25, nameIndex := 361, descriptorIndex := 362, attributes := #[] }, { accessFlags := 18, nameIndex := 275, descriptorIndex := 276, attributes := #[] }, { accessFlags := 25, nameIndex := 376, descriptorIndex := 377, attributes := #[] }, { accessFlags := 25, nameIndex := 379, descriptorIndex := 377, attributes := #[] }, { accessFlags := 26, nameIndex := 381, descriptorIndex := 276, attributes := #[] }])
  fields := #[{ name := "MIN_VALUE", type := .long, accessFlags := 25, slot := 0, constantValue := 0 }, { name := "MAX_VALUE", type := .long, accessFlags := 25, slot := 1, constantValue := 0 }, { name := "TYPE", type := (.object "java/lang/Class"), accessFlags := 25, slot := 2, constantValue := 0 }, { name := "value", type := .long, accessFlags := 18, slot := 0, constantValue := 0 }, { name := "SIZE", type := .int, accessFlags := 25, slot := 3, constantValue := 0 }, { name := "BYTES", type := .int, accessFlags := 25, slot := 4, constantValue := 0 }, { name := "serialVersionUID", type := .long, accessFlags := 26, slot := 5, constantValue := 0 }]
  methods := #[k9m0]
  instanceTypes := #[.long]
  staticTypes := #[.long, .long, (.object "java/lang/Class"), .int, .int, .long]
  resolved := Array.replicate 524 none
  statics := none }

def pool10 : Array CpInfo := pool [(1, .class_ 2), (0, u "java/lang/Integer"), (16, u "digits"), (0, u "[C"), (32, u "numberOfLeadingZeros"), (0, u "(I)I"), (30, u "DigitOnes"), (0, u "[B"), (2, u "DigitTens"), (99, .class_ 190), (0, u "java/lang/Integer$IntegerCache"), (3, u "I"), (8, .class_ 204), (0, u "java/lang/Number"), (2, u "value"), (56, .integer 65536), (37, u "TYPE"), (0, u "Ljava/lang/Class;"), (0, .class_ 305), (0, u "java/lang/Comparable"), (0, .class_ 307), (0, u "java/lang/constant/Constable"), (0, .class_ 309), (0, u "java/lang/constant/ConstantDesc"), (0, u "MIN_VALUE"), (1, u "MAX_VALUE"), (3, u "SIZE"), (1, u "BYTES"), (1, u "serialVersionUID"), (0, u "J")] 131

def k10c0 : Code := { maxStack := 3, maxLocals := 2, code := jdk_33_method_47_code, exceptionTable := #[], attributes := #[] }
def k10m0 : Method := { name := "numberOfLeadingZeros", desc := "(I)I", sig := { parameters := [.int], returnType := some .int }, accessFlags := 9, code := some k10c0 }
/-- java/lang/Integer -/
def k10 : Class := { plain "java/lang/Integer" (some 5) with
  accessFlags := 49
  interfaces := #[6, 7, 8]
  cf := some (fileOf pool10 1 #[.nestMembers #[189]] #[{ accessFlags := 9, nameIndex := 53, descriptorIndex := 54, attributes := #[] }] 49 203 #[304, 306, 308] #[{ accessFlags := 25, nameIndex := 310, descriptorIndex := 194, attributes := #[] }, { accessFlags := 25, nameIndex := 312, descriptorIndex := 194, attributes := #[] }, { accessFlags := 25, nameIndex := 302, descriptorIndex := 303, attributes := #[] }, { accessFlags := 24, nameIndex := 19, descriptorIndex := 20, attributes := #[] }, { accessFlags := 24, nameIndex := 89, descriptorIndex := 86, attributes := #[] }, { accessFlags := 24, nameIndex := 85, descriptorIndex := 86, attributes := #[] }, { accessFlags := 18, nameIndex := 207, descriptorIndex := 194, attributes := #[] }, { accessFlags := 25, nameIndex := 316, descriptorIndex := 194, attributes := #[] }, { accessFlags := 25, nameIndex := 318, descriptorIndex := 194, attributes := #[] }, { accessFlags := 26, nameIndex := 320, descriptorIndex := 321, attributes := #[] }])
  fields := #[{ name := "MIN_VALUE", type := .int, accessFlags := 25, slot := 0, constantValue := 0 }, { name := "MAX_VALUE", type := .int, accessFlags := 25, slot := 1, constantValue := 0 }, { name := "TYPE", type := (.object "java/lang/Class"), accessFlags := 25, slot := 2, constantValue := 0 }, { name := "digits", type := (.array .char), accessFlags := 24, slot := 3, constantValue := 0 }, { name := "DigitTens", type := (.array .byte), accessFlags := 24, slot := 4, constantValue := 0 }, { name := "DigitOnes", type := (.array .byte), accessFlags := 24, slot := 5, constantValue := 0 }, { name := "value", type := .int, accessFlags := 18, slot := 0, constantValue := 0 }, { name := "SIZE", type := .int, accessFlags := 25, slot := 6, constantValue := 0 }, { name := "BYTES", type := .int, accessFlags := 25, slot := 7, constantValue := 0 }, { name := "serialVersionUID", type := .long, accessFlags := 26, slot := 8, constantValue := 0 }]
  methods := #[k10m0]
  instanceTypes := #[.int]
  staticTypes := #[.int, .int, (.object "java/lang/Class"), (.array .char), (.array .byte), (.array .byte), .int, .int, .long]
  resolved := Array.replicate 453 none
  statics := none }

def pool11 : Array CpInfo := pool [(1, .class_ 2), (0, u "java/lang/Math"), (1, .class_ 6), (1, u "java/lang/Object"), (0, u "<init>"), (0, u "()V"), (89, .class_ 100), (1, u "java/lang/Math$RandomNumberGeneratorHolder"), (20, u "(JJ)J"), (50, u "negativeZeroFloatBits"), (0, u "J"), (2, u "negativeZeroDoubleBits"), (24, u "min"), (43, u "$assertionsDisabled"), (0, u "Z"), (88, u "(II)I"), (2, u "twoToTheDoubleScaleDown"), (0, u "D"), (4, u "twoToTheDoubleScaleUp"), (9, u "E"), (3, u "PI"), (2, u "TAU"), (2, u "DEGREES_TO_RADIANS"), (0, u "RADIANS_TO_DEGREES")] 94

def k11m0 : Method := { name := "<init>", desc := "()V", sig := { parameters := [], returnType := none }, accessFlags := 2, code := none }
def k11c1 : Code := { maxStack := 2, maxLocals := 2, code := jdk_29_method_69_code, exceptionTable := #[], attributes := #[] }
def k11m1 : Method := { name := "min", desc := "(II)I", sig := { parameters := [.int, .int], returnType := some .int }, accessFlags := 9, code := some k11c1 }
def k11c2 : Code := { maxStack := 4, maxLocals := 4, code := jdk_29_method_70_code, exceptionTable := #[], attributes := #[] }
def k11m2 : Method := { name := "min", desc := "(JJ)J", sig := { parameters := [.long, .long], returnType := some .long }, accessFlags := 9, code := some k11c2 }
/-- java/lang/Math -/
def k11 : Class := { plain "java/lang/Math" (some 0) with
  accessFlags := 49
  interfaces := #[]
  cf := some (fileOf pool11 1 #[.nestMembers #[98]] #[{ accessFlags := 2, nameIndex := 7, descriptorIndex := 8, attributes := #[] }, { accessFlags := 9, nameIndex := 201, descriptorIndex := 335, attributes := #[] }, { accessFlags := 9, nameIndex := 201, descriptorIndex := 121, attributes := #[] }] 49 4 #[] #[{ accessFlags := 25, nameIndex := 354, descriptorIndex := 339, attributes := #[] }, { accessFlags := 25, nameIndex := 358, descriptorIndex := 339, attributes := #[] }, { accessFlags := 25, nameIndex := 361, descriptorIndex := 339, attributes := #[] }, { accessFlags := 26, nameIndex := 364, descriptorIndex := 339, attributes := #[] }, { accessFlags := 26, nameIndex := 365, descriptorIndex := 339, attributes := #[] }, { accessFlags := 26, nameIndex := 172, descriptorIndex := 173, attributes := #[] }, { accessFlags := 26, nameIndex := 176, descriptorIndex := 173, attributes := #[] }, { accessFlags := 8, nameIndex := 344, descriptorIndex := 339, attributes := #[] }, { accessFlags := 8, nameIndex := 338, descriptorIndex := 339, attributes := #[] }, { accessFlags := 4120, nameIndex := 245, descriptorIndex := 246, attributes := #[] }])
  fields := #[{ name := "E", type := .double, accessFlags := 25, slot := 0, constantValue := 0 }, { name := "PI", type := .double, accessFlags := 25, slot := 1, constantValue := 0 }, { name := "TAU", type := .double, accessFlags := 25, slot := 2, constantValue := 0 }, { name := "DEGREES_TO_RADIANS", type := .double, accessFlags := 26, slot := 3, constantValue := 0 }, { name := "RADIANS_TO_DEGREES", type := .double, accessFlags := 26, slot := 4, constantValue := 0 }, { name := "negativeZeroFloatBits", type := .long, accessFlags := 26, slot := 5, constantValue := 0 }, { name := "negativeZeroDoubleBits", type := .long, accessFlags := 26, slot := 6, constantValue := 0 }, { name := "twoToTheDoubleScaleUp", type := .double, accessFlags := 8, slot := 7, constantValue := 0 }, { name := "twoToTheDoubleScaleDown", type := .double, accessFlags := 8, slot := 8, constantValue := 0 }, { name := "$assertionsDisabled", type := .boolean, accessFlags := 4120, slot := 9, constantValue := 0 }]
  methods := #[k11m0, k11m1, k11m2]
  instanceTypes := #[]
  staticTypes := #[.double, .double, .double, .double, .double, .long, .long, .double, .double, .boolean]
  resolved := Array.replicate 460 none
  statics := none }

def pool12 : Array CpInfo := pool [(1, u "java/lang/Cloneable"), (0, .class_ 1), (0, u "java/lang/Object"), (0, .class_ 3)] 3

/-- java/lang/Cloneable -/
def k12 : Class := { plain "java/lang/Cloneable" (some 0) with
  accessFlags := 1537
  interfaces := #[]
  cf := some (fileOf pool12 2 #[] #[] 1537 4 #[] #[])
  fields := #[]
  methods := #[]
  instanceTypes := #[]
  staticTypes := #[]
  resolved := Array.replicate 8 none
  statics := none }

/-- the primitive byte -/
def k13 : Class := { plain "byte" none with kind := .primitive 'B', accessFlags := 0x411 }
/-- [B -/
def k14 : Class := { plain "[B" (some 0) with kind := .array 13 .byte, interfaces := #[12, 4], accessFlags := 1041 }

/-- the primitive int -/
def k15 : Class := { plain "int" none with kind := .primitive 'I', accessFlags := 0x411 }
/-- [I -/
def k16 : Class := { plain "[I" (some 0) with kind := .array 15 .int, interfaces := #[12, 4], accessFlags := 1041 }

def heap : Heap := #[]
def classes : Array Class := #[k0, k1, k2, k3, k4, k5, k6, k7, k8, k9, k10, k11, k12, k13, k14, k15, k16]
def interned : List (Array UInt16 × Addr) := []
def slotsUsed : Nat := 0
def theMethod : MethodId := ⟨1, 2⟩
def args0 : Array Value := #[.long 5, .long 1000, .int 3]
def aboutOver (below : List Frame) : State where
  vm := { classes := classes, interned := interned.toArray }
  heap := heap
  slotsUsed := slotsUsed
  threads := #[{ frames := .invoking theMethod args0 :: below }]
def below0 : List Frame := [.native { method := ⟨0, 0⟩, args := #[] }]
def about1 : State := aboutOver below0
def p0 : Program := .bare "" "" ""
def e0 : Env := launch0.env 0 0 0
theorem w_frames : about1.frames = Frame.invoking theMethod args0 :: below0 := rfl
set_option maxRecDepth 65536 in
theorem w_args : argsFit about1.vm theMethod args0 = true := by decide +kernel
set_option maxRecDepth 65536 in
theorem w_heap : heapFits about1 = true := by decide +kernel
set_option maxRecDepth 65536 in
theorem w_runnable : about1.curStatus? = some .runnable := by decide +kernel
set_option maxRecDepth 65536 in
theorem w_alone : about1.alone = true := by decide +kernel
set_option maxRecDepth 65536 in
theorem w_named : about1.methodNamed? x = some theMethod := by decide +kernel
set_option maxRecDepth 65536 in
theorem w_hears : about1.hears theMethod below0 = true := by decide +kernel
set_option maxRecDepth 65536 in
theorem w_ripe : about1.ripe theMethod args0 below0 = true := by decide +kernel
theorem w_running : about1.status = .running := rfl
set_option maxRecDepth 65536 in
theorem w_room : about1.hasRoom e0.platform room_1 = true :=
  launch0.hasRoom_least _ room_1 (by decide +kernel) (by decide +kernel) (by decide +kernel) (by decide +kernel) (by decide +kernel) (by decide +kernel)
theorem allAtoms_all (ts : List Jvm.Cond) (a : Array Jvm.Value) (st : Jvm.State) : (allAtoms ts).before a st = ts.all (fun c => c.before a st) := by
  induction ts with
  | nil => rfl
  | cons c t ih =>
    show (Jvm.Cond.and c (allAtoms t)).before a st = _
    rw [Jvm.Cond.before_and, ih, List.all_cons]
def words1 : List Jvm.Cond := Jvm.Cond.code x code maxLocals ret :: tables_1
/-- a 'code' word, met by the world's own term for the bytes: nothing is compared byte by byte -/
theorem code_word {y : MethodName} {bytes : ByteArray} {mx : Nat} {rt : Option FieldType} {a : Array Value} {s : State} {m : MethodId} {meth : Method} {c : Code} (h1 : s.methodNamed? y = some m) (h2 : s.vm.method? m = some meth) (h3 : meth.code = some c) (h4 : c.code = bytes)
    (h5 : (c.maxLocals == mx && c.exceptionTable.isEmpty && decide (c.maxStack ≤ mostOperands) && decide (meth.sig.returnType = rt) && !meth.locks && decide (parseMethodDescriptor y.desc = some meth.sig)) = true) : (Jvm.Cond.code y bytes mx rt).before a s = true := by
  simp only [Bool.and_eq_true, beq_iff_eq, Bool.not_eq_true', decide_eq_true_eq] at h5
  obtain ⟨⟨⟨⟨⟨g1, g2⟩, g3⟩, g4⟩, g5⟩, g6⟩ := h5
  simp [Cond.before, Cond.holds, Cond.value, h1, h2, h3, h4, g1, g2, g3, g4, g5, g6]
def isCode : Jvm.Cond → Bool
  | .code _ _ _ _ => true
  | _ => false
theorem all_split {L : List Jvm.Cond} {P : Jvm.Cond → Bool} (h1 : L.all (fun c => isCode c || P c) = true) (h2 : ∀ c ∈ L.filter isCode, P c = true) : L.all P = true := by
  refine List.all_eq_true.mpr fun c hc => ?_
  have h := List.all_eq_true.mp h1 c hc
  rcases Bool.eq_false_or_eq_true (isCode c) with hi | hi
  · exact h2 c (List.mem_filter.mpr ⟨hc, hi⟩)
  · simpa [hi] using h
set_option maxRecDepth 65536 in
theorem w_c0 : (Jvm.Cond.code x code maxLocals ret).before args0 about1 = true := code_word (m := ⟨1, 2⟩) (meth := k1m2) (c := k1c2) (by decide +kernel) rfl rfl rfl (by decide +kernel)
set_option maxRecDepth 65536 in
theorem w_c1 : (Jvm.Cond.code ({ cls := "com/example/gentle_commit/gentlecommit/initiator/RetryWaits", name := "<init>", desc := "(JJ)V" } : Jvm.MethodName) prog_11_method_1_code (5 : Nat) (Option.none : Option Jvm.ClassFile.FieldType)).before args0 about1 = true := code_word (m := ⟨3, 0⟩) (meth := k3m0) (c := k3c0) (by decide +kernel) rfl rfl rfl (by decide +kernel)
set_option maxRecDepth 65536 in
theorem w_c2 : (Jvm.Cond.code ({ cls := "java/lang/Record", name := "<init>", desc := "()V" } : Jvm.MethodName) jdk_30_method_1_code (1 : Nat) (Option.none : Option Jvm.ClassFile.FieldType)).before args0 about1 = true := code_word (m := ⟨2, 0⟩) (meth := k2m0) (c := k2c0) (by decide +kernel) rfl rfl rfl (by decide +kernel)
set_option maxRecDepth 65536 in
theorem w_c3 : (Jvm.Cond.code ({ cls := "java/lang/Object", name := "<init>", desc := "()V" } : Jvm.MethodName) object_method_1_code (1 : Nat) (Option.none : Option Jvm.ClassFile.FieldType)).before args0 about1 = true := code_word (m := ⟨0, 0⟩) (meth := k0m0) (c := k0c0) (by decide +kernel) rfl rfl rfl (by decide +kernel)
set_option maxRecDepth 65536 in
theorem w_c4 : (Jvm.Cond.code ({ cls := "com/example/gentle_commit/gentlecommit/initiator/RetryWaits", name := "afterFailures", desc := "(I)J" } : Jvm.MethodName) prog_11_method_3_code (3 : Nat) (Option.some Jvm.ClassFile.FieldType.long)).before args0 about1 = true := code_word (m := ⟨3, 1⟩) (meth := k3m1) (c := k3c1) (by decide +kernel) rfl rfl rfl (by decide +kernel)
set_option maxRecDepth 65536 in
theorem w_c5 : (Jvm.Cond.code ({ cls := "java/lang/Long", name := "numberOfLeadingZeros", desc := "(J)I" } : Jvm.MethodName) jdk_35_method_48_code (3 : Nat) (Option.some Jvm.ClassFile.FieldType.int)).before args0 about1 = true := code_word (m := ⟨9, 0⟩) (meth := k9m0) (c := k9c0) (by decide +kernel) rfl rfl rfl (by decide +kernel)
set_option maxRecDepth 65536 in
theorem w_c6 : (Jvm.Cond.code ({ cls := "java/lang/Integer", name := "numberOfLeadingZeros", desc := "(I)I" } : Jvm.MethodName) jdk_33_method_47_code (2 : Nat) (Option.some Jvm.ClassFile.FieldType.int)).before args0 about1 = true := code_word (m := ⟨10, 0⟩) (meth := k10m0) (c := k10c0) (by decide +kernel) rfl rfl rfl (by decide +kernel)
set_option maxRecDepth 65536 in
theorem w_c7 : (Jvm.Cond.code ({ cls := "java/lang/Math", name := "min", desc := "(II)I" } : Jvm.MethodName) jdk_29_method_69_code (2 : Nat) (Option.some Jvm.ClassFile.FieldType.int)).before args0 about1 = true := code_word (m := ⟨11, 1⟩) (meth := k11m1) (c := k11c1) (by decide +kernel) rfl rfl rfl (by decide +kernel)
set_option maxRecDepth 65536 in
theorem w_c8 : (Jvm.Cond.code ({ cls := "java/lang/Math", name := "min", desc := "(JJ)J" } : Jvm.MethodName) jdk_29_method_70_code (4 : Nat) (Option.some Jvm.ClassFile.FieldType.long)).before args0 about1 = true := code_word (m := ⟨11, 2⟩) (meth := k11m2) (c := k11c2) (by decide +kernel) rfl rfl rfl (by decide +kernel)
set_option maxRecDepth 65536 in
theorem w_c9 : (Jvm.Cond.code ({ cls := "com/example/gentle_commit/gentlecommit/initiator/RetryWaitsAfterFailuresPinLaw", name := "expected", desc := "(JJI)J" } : Jvm.MethodName) method_2_code (6 : Nat) (Option.some Jvm.ClassFile.FieldType.long)).before args0 about1 = true := code_word (m := ⟨1, 1⟩) (meth := k1m1) (c := k1c1) (by decide +kernel) rfl rfl rfl (by decide +kernel)
def codes1 : List Jvm.Cond := [Jvm.Cond.code x code maxLocals ret, Jvm.Cond.code ({ cls := "com/example/gentle_commit/gentlecommit/initiator/RetryWaits", name := "<init>", desc := "(JJ)V" } : Jvm.MethodName) prog_11_method_1_code (5 : Nat) (Option.none : Option Jvm.ClassFile.FieldType), Jvm.Cond.code ({ cls := "java/lang/Record", name := "<init>", desc := "()V" } : Jvm.MethodName) jdk_30_method_1_code (1 : Nat) (Option.none : Option Jvm.ClassFile.FieldType), Jvm.Cond.code ({ cls := "java/lang/Object", name := "<init>", desc := "()V" } : Jvm.MethodName) object_method_1_code (1 : Nat) (Option.none : Option Jvm.ClassFile.FieldType), Jvm.Cond.code ({ cls := "com/example/gentle_commit/gentlecommit/initiator/RetryWaits", name := "afterFailures", desc := "(I)J" } : Jvm.MethodName) prog_11_method_3_code (3 : Nat) (Option.some Jvm.ClassFile.FieldType.long), Jvm.Cond.code ({ cls := "java/lang/Long", name := "numberOfLeadingZeros", desc := "(J)I" } : Jvm.MethodName) jdk_35_method_48_code (3 : Nat) (Option.some Jvm.ClassFile.FieldType.int), Jvm.Cond.code ({ cls := "java/lang/Integer", name := "numberOfLeadingZeros", desc := "(I)I" } : Jvm.MethodName) jdk_33_method_47_code (2 : Nat) (Option.some Jvm.ClassFile.FieldType.int), Jvm.Cond.code ({ cls := "java/lang/Math", name := "min", desc := "(II)I" } : Jvm.MethodName) jdk_29_method_69_code (2 : Nat) (Option.some Jvm.ClassFile.FieldType.int), Jvm.Cond.code ({ cls := "java/lang/Math", name := "min", desc := "(JJ)J" } : Jvm.MethodName) jdk_29_method_70_code (4 : Nat) (Option.some Jvm.ClassFile.FieldType.long), Jvm.Cond.code ({ cls := "com/example/gentle_commit/gentlecommit/initiator/RetryWaitsAfterFailuresPinLaw", name := "expected", desc := "(JJI)J" } : Jvm.MethodName) method_2_code (6 : Nat) (Option.some Jvm.ClassFile.FieldType.long)]
set_option maxRecDepth 65536 in
theorem codes_eq : words1.filter isCode = codes1 := rfl
theorem w_codes : ∀ c ∈ words1.filter isCode, c.before args0 about1 = true := by
  rw [codes_eq]
  intro c hc
  simp only [codes1, List.mem_cons, List.not_mem_nil, or_false] at hc
  rcases hc with rfl | rfl | rfl | rfl | rfl | rfl | rfl | rfl | rfl | rfl
  · exact w_c0
  · exact w_c1
  · exact w_c2
  · exact w_c3
  · exact w_c4
  · exact w_c5
  · exact w_c6
  · exact w_c7
  · exact w_c8
  · exact w_c9
set_option maxRecDepth 65536 in
theorem w_t1 : (words1.take 24).all (fun c => isCode c || c.before args0 about1) = true := by decide +kernel
set_option maxRecDepth 65536 in
theorem w_t2 : (words1.drop 24).all (fun c => isCode c || c.before args0 about1) = true := by decide +kernel
theorem w_tables : (allAtoms (Jvm.Cond.code x code maxLocals ret :: tables_1)).before args0 about1 = true := by
  rw [allAtoms_all]
  show words1.all (fun c => c.before args0 about1) = true
  refine all_split ?_ w_codes
  rw [← List.take_append_drop 24 words1, List.all_append, w_t1, w_t2]
  rfl
set_option maxRecDepth 65536 in
theorem w_case : (Jvm.Cond.and given_1 narrow_1).before args0 about1 = true := by decide +kernel
theorem w_applies : (headSpec (Jvm.Cond.code x code maxLocals ret :: tables_1) room_1).applies x e0.platform about1 = true :=
  (Spec.applies_iff w_frames).mpr ⟨w_running, w_runnable, w_alone, w_named, w_hears, w_ripe, w_room, w_tables⟩
theorem atStart : AtStart classFile x code maxLocals ret World_1 tables_1 room_1 Calls_1 rest_1 Pre_1 launch0 p0 e0 about1 theMethod args0 below0 :=
  ⟨lists_1, trivial, launch0.admits_env _ _ _, launch0.least_env, fairChoices_fair.cas, fairChoices_fair.clock, w_frames, w_args, w_heap, w_applies, trivial, trivial, w_case⟩
end start1
theorem witness_1 : WitnessClaimed_1 := ⟨start1.p0, start1.e0, start1.about1, start1.theMethod, start1.args0, start1.below0, start1.atStart⟩
end Jvm.Pilot.@@N@@
