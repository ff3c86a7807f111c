import JvmDerived
import JvmDerived.Pilot.@@N@@Statement
import JvmDerived.Pilot.@@N@@Code
set_option linter.unusedVariables false
set_option linter.unusedSimpArgs false
namespace Jvm.RoadKit
open Sem ClassFile Op Lib Jvm.Stand Jvm.Free Jvm.LawKit
section New
variable {p : Program} {l : Launch} {e : Env} {R : Room} {s : State} {m : MethodId} {args : Array Value} {below : List Frame} {meth : Method} {c : Code} {T : State} {locs : List Loc} {cells slots : Nat}
theorem retI (X : Stand p l e R s m args below meth c T locs cells slots) (hx : p.tables.exec = Jvm.exec) {pc : Nat} {Ls : Array Slot} {z : Int32} {rest : List Value} (hret : meth.sig.returnType = some .int) (hd : decode c.code pc = .ok (.ireturn, 1)) {fs : List Frame}
    (hl : ∀ (f : JFrame) (acts : List Action), f.method = m → f.locked = none → f.entered = [] → (doReturn e (T.setTop f) acts (some (.int z))).1 = T.setFrames fs) : Steps p.tables e below (T.setTop (mkF m pc Ls (.int z :: rest))) (T.setFrames fs) := by
  have hm' : T.vm.method? m = some meth := X.method'
  have hn : narrow .int (.int z) = .int z := rfl
  show Steps p.tables e below (T.setTop { method := m, pc := pc, locals := Ls, stack := _ :: rest, locked := none }) _
  jvm_step X.here [X.here.top, hx, hd, hm', hret, hn]
  first | (intro acts; rw [hl _ acts rfl rfl rfl]) | rw [hl _ _ rfl rfl rfl]
  exact Steps.refl _
theorem own_nar01 {z : Int32} (h : z = 0 ∨ z = 1) : narrow .boolean (.int z) = .int z := by rcases h with rfl | rfl <;> rfl
theorem own_fit01 {z : Int32} (h : z = 0 ∨ z = 1) : fits .boolean (.int z) = true := by rcases h with rfl | rfl <;> decide
theorem own_retZ (X : Stand p l e R s m args below meth c T locs cells slots) (hx : p.tables.exec = Jvm.exec) {pc : Nat} {Ls : Array Slot} {z : Int32} {rest : List Value} (hret : meth.sig.returnType = some .boolean) (hz : z = 0 ∨ z = 1) (hd : decode c.code pc = .ok (.ireturn, 1)) {fs : List Frame}
    (hl : ∀ (f : JFrame) (acts : List Action), f.method = m → f.locked = none → f.entered = [] → (doReturn e (T.setTop f) acts (some (.int z))).1 = T.setFrames fs) : Steps p.tables e below (T.setTop (mkF m pc Ls (.int z :: rest))) (T.setFrames fs) := by
  have hm' : T.vm.method? m = some meth := X.method'
  have hn : narrow .boolean (.int z) = .int z := own_nar01 hz
  show Steps p.tables e below (T.setTop { method := m, pc := pc, locals := Ls, stack := _ :: rest, locked := none }) _
  jvm_step X.here [X.here.top, hx, hd, hm', hret, hn]
  first | (intro acts; rw [hl _ acts rfl rfl rfl]) | rw [hl _ _ rfl rfl rfl]
  exact Steps.refl _
end New
section Own
variable {Z : State} {h h' : Heap} {C n d : String} {w : Value} {a : Addr}
theorem own_sta_keep (F : Sta Z h C n d w) {ws : List Addr} (K : Keep h h' ws) (q : ∀ (st : Addr) (cell : Cell), h[st]? = some cell → cell.vm.isStatics = true → st ∉ ws) : Sta Z h' C n d w := by
  obtain ⟨cf, i, k, f, st, cell, h1, h2, h3, h4, h5, h6, h7⟩ := F
  exact ⟨cf, i, k, f, st, cell, h1, h2, h3, h4, K.2.1 st cell h5 (q st cell h5 h6), h6, h7⟩
theorem own_eqf {args : Array Value} {s : State} {t : Term} {C n d : String} {k : Int32} {x : Addr} (h : (Jvm.Cond.eq (.field t C n d) (.int k)).value args s none s [] = some true) (ht : t.eval args s none [] s = some (.ref x)) : s.fieldOf? x C n d = some (.int k) := by
  simp only [Cond.value, Term.eval, ht, Option.bind_eq_bind, Option.bind_some] at h
  cases hv : s.fieldOf? x C n d with
  | none => simp [hv] at h
  | some v => cases v <;> simp_all
theorem own_eqL {args : Array Value} {s : State} {t : Term} {k : Int64} (h : (Jvm.Cond.eq t (.long k)).value args s none s [] = some true) : t.eval args s none [] s = some (.long k) := by
  simp only [Cond.value, Term.eval] at h
  cases hv : t.eval args s none [] s with
  | none => simp [hv] at h
  | some v => cases v <;> simp_all
theorem own_sta_keep0 (F : Sta Z h C n d w) (K : Keep h h' []) : Sta Z h' C n d w := own_sta_keep F K fun _ _ _ _ q => nomatch q
theorem own_sta_keep1 (F : Sta Z h C n d w) (K : Keep h h' [a]) {C' : String} (E : Exa Z h a C') : Sta Z h' C n d w := own_sta_keep F K fun st cell h1 h2 q => by
  cases List.mem_singleton.mp q
  obtain ⟨c2, _, g1, -, -, g4, -⟩ := E
  cases h1.symm.trans g1
  rw [h2] at g4; cases g4
end Own
end Jvm.RoadKit
namespace Jvm.Pilot.@@N@@
open Jvm Jvm.ClassFile Sem Op Lib Jvm.Free Jvm.Stand Jvm.LawKit Jvm.RoadKit Bundle Jvm.Pilot.@@N@@.Jvm.D
def own_by (q : Int64) (s : Int32) : Int32 := ((q.toUInt64 >>> (s &&& 0x3f).toInt64.toUInt64).toInt64).toInt32.toInt8.toInt32
def own_by0 (q : Int64) : Int32 := q.toInt32.toInt8.toInt32
def own_ix (p : Int32) : Int64 := (p &&& 63).toInt64
def own_want (q : Int64) (p : Int32) : Int32 := (((q.toUInt64 >>> (((63 : Int64) - own_ix p).toInt32 &&& 0x3f).toInt64.toUInt64).toInt64) &&& (1 : Int64)).toInt32
def own_j (q : Int64) : Int32 := ((q.toUInt64 >>> ((3 : Int32) &&& 0x3f).toInt64.toUInt64).toInt64).toInt32
def own_el (v0 v1 v2 v3 v4 v5 v6 v7 j : Int32) : Int32 := [v0, v1, v2, v3, v4, v5, v6, v7].getD j.toNatClampNeg 0
def own_bit (v0 v1 v2 v3 v4 v5 v6 v7 : Int32) (q : Int64) : Int32 := ((own_el v0 v1 v2 v3 v4 v5 v6 v7 (own_j q)).toUInt32 >>> (((7 : Int64) - (q &&& (7 : Int64))).toInt32 &&& 31).toUInt32).toInt32 &&& (1 : Int32)
theorem own_getD (l : List Int32) (n : Nat) : (l.map Value.int).getD n (.int 0) = .int (l.getD n 0) := by
  rw [List.getD_eq_getElem?_getD, List.getD_eq_getElem?_getD, List.getElem?_map]
  cases l[n]? <;> rfl
theorem own_el_at (v0 v1 v2 v3 v4 v5 v6 v7 j : Int32) : ([.int v0, .int v1, .int v2, .int v3, .int v4, .int v5, .int v6, .int v7] : List Value).getD j.toNatClampNeg (.int 0) = .int (own_el v0 v1 v2 v3 v4 v5 v6 v7 j) := own_getD [v0, v1, v2, v3, v4, v5, v6, v7] _
theorem own_ix_val (p : Int32) : (own_ix p).toInt = p.toInt % 64 := by
  have h1 : (p &&& 63).toInt = p.toInt % (2 ^ 6 : Nat) := c_mask p 63 6 (by decide) (by decide)
  have h2 := c_i2l (p &&& 63)
  unfold own_ix
  omega
theorem own_j_val (p : Int32) : (own_j (own_ix p)).toInt = (p.toInt % 64) / 8 := by
  have a := own_ix_val p
  have b := c_lushr (own_ix p) 3 3 (by decide) (by decide)
  have e : ((2 ^ 3 : Nat) : Int) = 8 := by decide
  have c := c_l2i (((own_ix p).toUInt64 >>> ((3 : Int32) &&& 0x3f).toInt64.toUInt64).toInt64)
  have r := rng32 (own_j (own_ix p))
  unfold own_j at *
  omega
theorem own_j_rng (p : Int32) : ¬ own_j (own_ix p) < 0 ∧ own_j (own_ix p) < 8 := by
  have a := own_j_val p
  have z : (0 : Int32).toInt = 0 := by decide
  have k : (8 : Int32).toInt = 8 := by decide
  rw [Int32.lt_iff_toInt_lt, Int32.lt_iff_toInt_lt]
  omega
theorem own_par (q : Int) (k : Nat) (hk : k ≤ 63) : ((q % 18446744073709551616) / ((2 ^ k : Nat) : Int)) % 2 = (q / ((2 ^ k : Nat) : Int)) % 2 := by
  have pos : ((2 ^ k : Nat) : Int) ≠ 0 := by have := Nat.two_pow_pos k; omega
  have e0 : (2 ^ k : Nat) * 2 ^ (63 - k) = 9223372036854775808 := by rw [← Nat.pow_add, show k + (63 - k) = 63 by omega]
  have e : (18446744073709551616 : Int) = ((2 ^ k : Nat) : Int) * (2 * ((2 ^ (63 - k) : Nat) : Int)) := by
    have : (((2 ^ k : Nat) * 2 ^ (63 - k) : Nat) : Int) = 9223372036854775808 := by rw [e0]; rfl
    rw [Int.natCast_mul] at this
    rw [Int.mul_left_comm, this]; rfl
  have h := Int.emod_add_mul_ediv q 18446744073709551616
  have h2 : q / ((2 ^ k : Nat) : Int) = (q % 18446744073709551616) / ((2 ^ k : Nat) : Int) + (2 * ((2 ^ (63 - k) : Nat) : Int)) * (q / 18446744073709551616) := by
    conv => lhs; rw [← h]
    generalize q % 18446744073709551616 = r
    generalize q / 18446744073709551616 = c
    rw [e, Int.mul_assoc, Int.add_mul_ediv_left _ _ pos]
  rw [h2, Int.mul_assoc]
  generalize ((2 ^ (63 - k) : Nat) : Int) * (q / 18446744073709551616) = w
  omega
theorem own_nat32 (x : Int32) (j : Nat) (h : x.toInt = j) : x.toBitVec.toNat = j := by
  have e : x.toInt = x.toBitVec.toInt := rfl
  have b := BitVec.toInt_eq_toNat_cond x.toBitVec
  have l := x.toBitVec.isLt
  rw [e] at h
  split at b <;> omega
theorem own_left (el t : Int32) (Q : Int) (n : Nat) (hn : n ≤ 7) (ht : t.toInt = n) (h : (el.toInt - Q) % 256 = 0) : ((el.toUInt32 >>> (t &&& 31).toUInt32).toInt32 &&& (1 : Int32)).toInt = (Q / ((2 ^ n : Nat) : Int)) % 2 := by
  have m : ∀ y : Int32, (y &&& 1).toInt = y.toInt % (2 ^ 1 : Nat) := fun y => c_mask y 1 1 (by decide) (by decide)
  rw [m]
  have hb := own_nat32 t n ht
  rcases Nat.eq_zero_or_pos n with h0 | h0
  · subst h0
    have e : t = 0 := Int32.toInt_inj.mp (by rw [ht]; rfl)
    subst e
    have s0 : (el.toUInt32 >>> ((0 : Int32) &&& 31).toUInt32).toInt32 = el := by
      apply Int32.toBitVec_inj.mp
      simp
    rw [s0]
    simp
    omega
  · have a := c_iushr el t n (by omega) h0
    rw [a]
    have hc : n = 1 ∨ n = 2 ∨ n = 3 ∨ n = 4 ∨ n = 5 ∨ n = 6 ∨ n = 7 := by omega
    rcases hc with rfl | rfl | rfl | rfl | rfl | rfl | rfl <;> simp <;> omega
theorem own_want_val (q : Int64) (p : Int32) : (own_want q p).toInt = (q.toInt / ((2 ^ (63 - (p.toInt % 64).toNat) : Nat) : Int)) % 2 := by
  have a := own_ix_val p
  have s := c_lsub 63 (own_ix p)
  have k63 : (63 : Int64).toInt = 63 := by decide
  have r := rng64 (63 - own_ix p)
  have c := c_l2i (63 - own_ix p)
  have r2 := rng32 ((63 : Int64) - own_ix p).toInt32
  generalize hn : (p.toInt % 64).toNat = n
  have hn' : n ≤ 63 ∧ (p.toInt % 64) = n := by omega
  have v : ((63 : Int64) - own_ix p).toInt32.toInt = ((63 - n : Nat) : Int) := by omega
  have hb := own_nat32 _ _ v
  have m : ∀ y : Int64, (y &&& 1).toInt = y.toInt % (2 ^ 1 : Nat) := fun y => c_maskL y 1 1 (by decide) (by decide)
  have par := own_par q.toInt (63 - n) (by omega)
  have key : (((q.toUInt64 >>> (((63 : Int64) - own_ix p).toInt32 &&& 0x3f).toInt64.toUInt64).toInt64) &&& (1 : Int64)).toInt = (q.toInt / ((2 ^ (63 - n) : Nat) : Int)) % 2 := by
    rw [m]
    rcases Nat.eq_zero_or_pos (63 - n) with h0 | h0
    · rw [h0] at v hb ⊢
      have e : ((63 : Int64) - own_ix p).toInt32 = 0 := Int32.toInt_inj.mp (by rw [v]; rfl)
      rw [e]
      have s0 : (q.toUInt64 >>> ((0 : Int32) &&& 0x3f).toInt64.toUInt64).toInt64 = q := by
        apply Int64.toBitVec_inj.mp
        simp
      rw [s0]; simp
    · have sh := c_lushr q ((63 : Int64) - own_ix p).toInt32 (63 - n) (by omega) h0
      rw [sh]
      simpa using par
  have c2 := c_l2i (((q.toUInt64 >>> (((63 : Int64) - own_ix p).toInt32 &&& 0x3f).toInt64.toUInt64).toInt64) &&& (1 : Int64))
  have r3 := rng32 (own_want q p)
  unfold own_want at *
  generalize (q.toInt / ((2 ^ (63 - n) : Nat) : Int)) % 2 = z at *
  have z2 : z = (q.toInt / ((2 ^ (63 - n) : Nat) : Int)) % 2 ∨ True := Or.inr trivial
  omega
theorem own_by_val (q : Int64) (s : Int32) (n : Nat) (h : s.toInt = n) (h0 : 0 < n) (h1 : n ≤ 56) : ((own_by q s).toInt8.toInt32.toInt - q.toInt / ((2 ^ n : Nat) : Int)) % 256 = 0 := by
  have hb := own_nat32 s n h
  have a := c_lushr q s n (by omega) h0
  have b := c_l2i ((q.toUInt64 >>> (s &&& 0x3f).toInt64.toUInt64).toInt64)
  have c := c_i2b ((q.toUInt64 >>> (s &&& 0x3f).toInt64.toUInt64).toInt64).toInt32
  have d := c_i2b (own_by q s)
  unfold own_by at *
  rw [a] at b
  have hc : n = 8 ∨ n = 16 ∨ n = 24 ∨ n = 32 ∨ n = 40 ∨ n = 48 ∨ n = 56 ∨ ¬ (n = 8 ∨ n = 16 ∨ n = 24 ∨ n = 32 ∨ n = 40 ∨ n = 48 ∨ n = 56) := by omega
  have e : (q.toInt % 18446744073709551616) / ((2 ^ n : Nat) : Int) % 256 = q.toInt / ((2 ^ n : Nat) : Int) % 256 := by
    have pos : ((2 ^ n : Nat) : Int) ≠ 0 := by have := Nat.two_pow_pos n; omega
    have e0 : (2 ^ n : Nat) * 2 ^ (56 - n) = 72057594037927936 := by rw [← Nat.pow_add, show n + (56 - n) = 56 by omega]
    have e : (18446744073709551616 : Int) = ((2 ^ n : Nat) : Int) * (256 * ((2 ^ (56 - n) : Nat) : Int)) := by
      have : (((2 ^ n : Nat) * 2 ^ (56 - n) : Nat) : Int) = 72057594037927936 := by rw [e0]; rfl
      rw [Int.natCast_mul] at this
      rw [Int.mul_left_comm, this]; rfl
    have h := Int.emod_add_mul_ediv q.toInt 18446744073709551616
    have h2 : q.toInt / ((2 ^ n : Nat) : Int) = (q.toInt % 18446744073709551616) / ((2 ^ n : Nat) : Int) + (256 * ((2 ^ (56 - n) : Nat) : Int)) * (q.toInt / 18446744073709551616) := by
      conv => lhs; rw [← h]
      generalize q.toInt % 18446744073709551616 = r
      generalize q.toInt / 18446744073709551616 = c
      rw [e, Int.mul_assoc, Int.add_mul_ediv_left _ _ pos]
    rw [h2, Int.mul_assoc]
    generalize ((2 ^ (56 - n) : Nat) : Int) * (q.toInt / 18446744073709551616) = w
    omega
  generalize q.toInt / ((2 ^ n : Nat) : Int) = z at *
  generalize (q.toInt % 18446744073709551616) / ((2 ^ n : Nat) : Int) = y at *
  omega
theorem own_by0_val (q : Int64) : ((own_by0 q).toInt8.toInt32.toInt - q.toInt / ((2 ^ 0 : Nat) : Int)) % 256 = 0 := by
  have b := c_l2i q
  have c := c_i2b q.toInt32
  have d := c_i2b (own_by0 q)
  unfold own_by0 at *
  have e : ((2 ^ 0 : Nat) : Int) = 1 := by decide
  rw [e, Int.ediv_one]
  omega
theorem own_law (q : Int64) (p : Int32) : own_bit ((own_by q 56).toInt8.toInt32) ((own_by q 48).toInt8.toInt32) ((own_by q 40).toInt8.toInt32) ((own_by q 32).toInt8.toInt32) ((own_by q 24).toInt8.toInt32) ((own_by q 16).toInt8.toInt32) ((own_by q 8).toInt8.toInt32) ((own_by0 q).toInt8.toInt32) (own_ix p) = own_want q p := by
  apply Int32.toInt_inj.mp
  rw [own_want_val]
  have a := own_ix_val p
  have mk : ((own_ix p) &&& 7).toInt = (own_ix p).toInt % (2 ^ 3 : Nat) := c_maskL (own_ix p) 7 3 (by decide) (by decide)
  have s := c_lsub 7 ((own_ix p) &&& 7)
  have k7 : (7 : Int64).toInt = 7 := by decide
  have r := rng64 ((7 : Int64) - (own_ix p &&& 7))
  have c := c_l2i ((7 : Int64) - (own_ix p &&& 7))
  have r2 := rng32 ((7 : Int64) - (own_ix p &&& 7)).toInt32
  have hj := own_j_val p
  generalize hn : (p.toInt % 64).toNat = n
  have hn' : n ≤ 63 ∧ (p.toInt % 64) = n := by omega
  have vt : ((7 : Int64) - (own_ix p &&& 7)).toInt32.toInt = ((7 - n % 8 : Nat) : Int) := by
    have e : ((2 ^ 3 : Nat) : Int) = 8 := by decide
    omega
  have hjn : (own_j (own_ix p)).toNatClampNeg = n / 8 := by
    have z : (0 : Int32).toInt = 0 := by decide
    have := nat_of (j := own_j (own_ix p)) (by rw [Int32.lt_iff_toInt_lt]; omega)
    omega
  have split : ∀ (sh : Nat) (el : Int32), 63 - n = sh + (7 - n % 8) → (el.toInt - q.toInt / ((2 ^ sh : Nat) : Int)) % 256 = 0 → ((el.toUInt32 >>> (((7 : Int64) - (own_ix p &&& 7)).toInt32 &&& 31).toUInt32).toInt32 &&& (1 : Int32)).toInt = (q.toInt / ((2 ^ (63 - n) : Nat) : Int)) % 2 := by
    intro sh el he h
    rw [own_left el _ _ (7 - n % 8) (by omega) vt h, he, Nat.pow_add, Int.natCast_mul, ← Int.ediv_ediv_of_nonneg (Int.natCast_nonneg _)]
  have hc : n / 8 = 0 ∨ n / 8 = 1 ∨ n / 8 = 2 ∨ n / 8 = 3 ∨ n / 8 = 4 ∨ n / 8 = 5 ∨ n / 8 = 6 ∨ n / 8 = 7 := by omega
  unfold own_bit own_el
  rw [hjn]
  rcases hc with h | h | h | h | h | h | h | h <;> rw [h]
  · exact split 56 _ (by omega) (own_by_val q 56 56 (by decide) (by decide) (by decide))
  · exact split 48 _ (by omega) (own_by_val q 48 48 (by decide) (by decide) (by decide))
  · exact split 40 _ (by omega) (own_by_val q 40 40 (by decide) (by decide) (by decide))
  · exact split 32 _ (by omega) (own_by_val q 32 32 (by decide) (by decide) (by decide))
  · exact split 24 _ (by omega) (own_by_val q 24 24 (by decide) (by decide) (by decide))
  · exact split 16 _ (by omega) (own_by_val q 16 16 (by decide) (by decide) (by decide))
  · exact split 8 _ (by omega) (own_by_val q 8 8 (by decide) (by decide) (by decide))
  · exact split 0 _ (by omega) (own_by0_val q)

theorem d_prog_21_method_13_code_0 : decode prog_21_method_13_code 0 = .ok (.aload_n 0, 1) := by decide +kernel
theorem d_prog_21_method_13_code_1 : decode prog_21_method_13_code 1 = .ok (.lload_n 1, 1) := by decide +kernel
theorem d_prog_21_method_13_code_2 : decode prog_21_method_13_code 2 = .ok (.iconst 3, 1) := by decide +kernel
theorem d_prog_21_method_13_code_3 : decode prog_21_method_13_code 3 = .ok (.lushr, 1) := by decide +kernel
theorem d_prog_21_method_13_code_4 : decode prog_21_method_13_code 4 = .ok (.l2i, 1) := by decide +kernel
theorem d_prog_21_method_13_code_5 : decode prog_21_method_13_code 5 = .ok (.baload, 1) := by decide +kernel
theorem d_prog_21_method_13_code_6 : decode prog_21_method_13_code 6 = .ok (.ldc2_w 98, 3) := by decide +kernel
theorem d_prog_21_method_13_code_9 : decode prog_21_method_13_code 9 = .ok (.lload_n 1, 1) := by decide +kernel
theorem d_prog_21_method_13_code_10 : decode prog_21_method_13_code 10 = .ok (.ldc2_w 98, 3) := by decide +kernel
theorem d_prog_21_method_13_code_13 : decode prog_21_method_13_code 13 = .ok (.land, 1) := by decide +kernel
theorem d_prog_21_method_13_code_14 : decode prog_21_method_13_code 14 = .ok (.lsub, 1) := by decide +kernel
theorem d_prog_21_method_13_code_15 : decode prog_21_method_13_code 15 = .ok (.l2i, 1) := by decide +kernel
theorem d_prog_21_method_13_code_16 : decode prog_21_method_13_code 16 = .ok (.iushr, 1) := by decide +kernel
theorem d_prog_21_method_13_code_17 : decode prog_21_method_13_code 17 = .ok (.iconst 1, 1) := by decide +kernel
theorem d_prog_21_method_13_code_18 : decode prog_21_method_13_code 18 = .ok (.iand, 1) := by decide +kernel
theorem d_prog_21_method_13_code_19 : decode prog_21_method_13_code 19 = .ok (.ireturn, 1) := by decide +kernel
def Q_rmB (Z : State) (a1 : Addr) (q2 : Int64) (k1 : ClassId) (v0 : Int32) (v1 : Int32) (v2 : Int32) (v3 : Int32) (v4 : Int32) (v5 : Int32) (v6 : Int32) (v7 : Int32) (h0 : Heap) (n0 : Nat) (v : Option Value) (h : Heap) (L : List Loc) : Prop := v = some (.int (own_bit v0 v1 v2 v3 v4 v5 v6 v7 q2)) ∧ Fr n0 L ∧ h = h0
theorem pn_0 : plainName "org/lexpack/codec/BitString" = true := by first | (simp [plainName, overriddenIn]; done) | decide +kernel
theorem ef_0 (m : MethodId) (x0 : Addr) (x1 : Int64) : entryFrame m #[(.ref x0), (.long x1)] 3 = mkF m 0 #[.val (.ref x0), .val (.long x1), .second] [] := by first | (simp [entryFrame, mkF, argsToLocals, Value.category]; done) | rfl
set_option maxRecDepth 65536 in
set_option maxHeartbeats 40000000 in
theorem rmB_x (l : Launch) (Z : State) (a0 : Array Value) (hw : ∀ d ∈ tables_1, d.before a0 Z = true) (ws : List Jvm.Cond) (a1 : Addr) (q2 : Int64) (k1 : ClassId) (v0 : Int32) (v1 : Int32) (v2 : Int32) (v3 : Int32) (v4 : Int32) (v5 : Int32) (v6 : Int32) (v7 : Int32) (h0 : Heap) (n0 : Nat) (Z0 : n0 ≤ h0.size) (V_a1 : Arv Z h0 a1 k1 .byte (8 : Int32) [(.int v0), (.int v1), (.int v2), (.int v3), (.int v4), (.int v5), (.int v6), (.int v7)] (.int (0 : Int32))) (hj : ¬ own_j q2 < 0 ∧ own_j q2 < 8) (hres : (own_bit v0 v1 v2 v3 v4 v5 v6 v7 q2) = ((((own_el v0 v1 v2 v3 v4 v5 v6 v7 (own_j q2)).toUInt32 >>> ((((7 : Int64) - (q2 &&& (7 : Int64))).toInt32) &&& 31).toUInt32).toInt32) &&& (1 : Int32))) :
    MetFree l (⟨"org/lexpack/codec/BitString", "bit", "([BJ)I"⟩ : MethodName) (head1 (Jvm.Cond.code (⟨"org/lexpack/codec/BitString", "bit", "([BJ)I"⟩ : MethodName) prog_21_method_13_code 3 (some .int) :: ws) ({ frames := 0, cells := 0, slots := 0, locals := 0 } : Room)) (fun a U => a = #[(.ref a1), (.long q2)] ∧ Z.Warmed39 U.vm ∧ U.heap = h0) (fun _ _ _ _ _ => True) (fun _ U o U' => ∃ v L, o = .returned v ∧ Q_rmB Z a1 q2 k1 v0 v1 v2 v3 v4 v5 v6 v7 h0 n0 v U'.heap L ∧ FrameEnd U o U' L ({ frames := 0, cells := 0, slots := 0, locals := 0 } : Room).cells ({ frames := 0, cells := 0, slots := 0, locals := 0 } : Room).slots) := by
  refine MetFree.of_bodySF (plainFor_of_name pn_0) hisR ?_
  intro p e s m args below meth c s₁ Bd hml0 hP hK
  obtain ⟨rfl, hZ, hh⟩ := hP
  have hx := Bd.exec
  have hby := Bd.bytes
  have hml : c.maxLocals = 3 := hml0
  have hown : s.vm.findClass "org/lexpack/codec/BitString" = some m.cls := findClass_of_methodNamed Bd.named
  have hnm := (name_of_methodNamed Bd.named Bd.method).1
  have X0 : Stand p l e ({ frames := 0, cells := 0, slots := 0, locals := 0 } : Room) s m #[(.ref a1), (.long q2)] below meth c s₁ [] 0 0 := Stand.of_body Bd
  have e0 : s₁.heap = h0 := by rw [← hh, Bd.state]; rfl
  have N0 := Fr.nil n0
  have pre0 : ∀ t, Steps p.tables e below (s₁.setTop (mkF m 0 #[.val (.ref a1), .val (.long q2), .second] [])) t → Steps p.tables e below (s₁.setTop (entryFrame m #[(.ref a1), (.long q2)] 3)) t := fun t k => castTop (ef_0 m a1 q2) k
  obtain ⟨cl1, Ar1, q1, S1, M1, H1, G1⟩ := id V_a1
  have hin1 : ¬ ((own_j q2) < 0 ∨ cl1.slots.size ≤ ((own_j q2)).toNatClampNeg) := inb_of S1 ⟨hj.1, hj.2⟩
  have hat1 : cl1.slots[((own_j q2)).toNatClampNeg]? = some (.int (own_el v0 v1 v2 v3 v4 v5 v6 v7 (own_j q2))) := H1.at hin1 (own_el_at v0 v1 v2 v3 v4 v5 v6 v7 _)
  obtain ⟨fs, hr, hrun, hended, hW, hsame⟩ := X0.leave (v := some (.int ((((own_el v0 v1 v2 v3 v4 v5 v6 v7 (own_j q2)).toUInt32 >>> ((((7 : Int64) - (q2 &&& (7 : Int64))).toInt32) &&& 31).toUInt32).toInt32) &&& (1 : Int32)))) (fun h => by rw [Bd.returns] at h; cases h)
  refine ⟨_, _, pre0 _ ?_, hrun, hended, _, _, rfl, ?_, ⟨_, rfl⟩, hW, hsame.mono (by decide) (by decide)⟩
  · show Steps p.tables e below (s₁.setTop (mkF m 0 #[.val (.ref a1), .val (.long q2), .second] [])) _
    refine XS.aloadN X0.here hx rfl (hb hby d_prog_21_method_13_code_0) rfl rfl ?_
    show Steps p.tables e below (s₁.setTop (mkF m 1 #[.val (.ref a1), .val (.long q2), .second] [(.ref a1)])) _
    refine XS.lloadN X0.here hx rfl (hb hby d_prog_21_method_13_code_1) rfl ?_
    show Steps p.tables e below (s₁.setTop (mkF m 2 #[.val (.ref a1), .val (.long q2), .second] [(.long q2), (.ref a1)])) _
    refine XS.iconst X0.here hx rfl (hb hby d_prog_21_method_13_code_2) ?_
    show Steps p.tables e below (s₁.setTop (mkF m 3 #[.val (.ref a1), .val (.long q2), .second] [(.int (3 : Int32)), (.long q2), (.ref a1)])) _
    refine XS.lushr X0.here hx rfl (hb hby d_prog_21_method_13_code_3) rfl ?_
    show Steps p.tables e below (s₁.setTop (mkF m 4 #[.val (.ref a1), .val (.long q2), .second] [(.long ((q2.toUInt64 >>> ((3 : Int32) &&& 0x3f).toInt64.toUInt64).toInt64)), (.ref a1)])) _
    refine XS.l2i X0.here hx rfl (hb hby d_prog_21_method_13_code_4) rfl ?_
    show Steps p.tables e below (s₁.setTop (mkF m 5 #[.val (.ref a1), .val (.long q2), .second] [(.int (own_j q2)), (.ref a1)])) _
    refine X0.baloadBytes hx (j := (own_j q2)) (v := (.int (own_el v0 v1 v2 v3 v4 v5 v6 v7 (own_j q2)))) (by rw [e0]; exact Ar1.1) (State.isArrayOf_alike hZ.alike Ar1.2.1) Ar1.2.2 hin1 hat1 (g := (mkF m 5 #[.val (.ref a1), .val (.long q2), .second] [(.int (own_j q2)), (.ref a1)])) rfl rfl (hb hby d_prog_21_method_13_code_5) _ ?_
    show Steps p.tables e below (s₁.setTop (mkF m 6 #[.val (.ref a1), .val (.long q2), .second] [(.int (own_el v0 v1 v2 v3 v4 v5 v6 v7 (own_j q2)))])) _
    refine X0.ldc2J hx hown (mvT hZ (hw _ (List.mem_of_getElem? (i := 6) rfl))) (g := (mkF m 6 #[.val (.ref a1), .val (.long q2), .second] [(.int (own_el v0 v1 v2 v3 v4 v5 v6 v7 (own_j q2)))])) rfl (hb hby d_prog_21_method_13_code_6) ?_
    show Steps p.tables e below (s₁.setTop (mkF m 9 #[.val (.ref a1), .val (.long q2), .second] [(.long (7 : Int64)), (.int (own_el v0 v1 v2 v3 v4 v5 v6 v7 (own_j q2)))])) _
    refine XS.lloadN X0.here hx rfl (hb hby d_prog_21_method_13_code_9) rfl ?_
    show Steps p.tables e below (s₁.setTop (mkF m 10 #[.val (.ref a1), .val (.long q2), .second] [(.long q2), (.long (7 : Int64)), (.int (own_el v0 v1 v2 v3 v4 v5 v6 v7 (own_j q2)))])) _
    refine X0.ldc2J hx hown (mvT hZ (hw _ (List.mem_of_getElem? (i := 6) rfl))) (g := (mkF m 10 #[.val (.ref a1), .val (.long q2), .second] [(.long q2), (.long (7 : Int64)), (.int (own_el v0 v1 v2 v3 v4 v5 v6 v7 (own_j q2)))])) rfl (hb hby d_prog_21_method_13_code_10) ?_
    show Steps p.tables e below (s₁.setTop (mkF m 13 #[.val (.ref a1), .val (.long q2), .second] [(.long (7 : Int64)), (.long q2), (.long (7 : Int64)), (.int (own_el v0 v1 v2 v3 v4 v5 v6 v7 (own_j q2)))])) _
    refine XS.land X0.here hx rfl (hb hby d_prog_21_method_13_code_13) rfl ?_
    show Steps p.tables e below (s₁.setTop (mkF m 14 #[.val (.ref a1), .val (.long q2), .second] [(.long (q2 &&& (7 : Int64))), (.long (7 : Int64)), (.int (own_el v0 v1 v2 v3 v4 v5 v6 v7 (own_j q2)))])) _
    refine XS.lsub X0.here hx rfl (hb hby d_prog_21_method_13_code_14) rfl ?_
    show Steps p.tables e below (s₁.setTop (mkF m 15 #[.val (.ref a1), .val (.long q2), .second] [(.long ((7 : Int64) - (q2 &&& (7 : Int64)))), (.int (own_el v0 v1 v2 v3 v4 v5 v6 v7 (own_j q2)))])) _
    refine XS.l2i X0.here hx rfl (hb hby d_prog_21_method_13_code_15) rfl ?_
    show Steps p.tables e below (s₁.setTop (mkF m 16 #[.val (.ref a1), .val (.long q2), .second] [(.int (((7 : Int64) - (q2 &&& (7 : Int64))).toInt32)), (.int (own_el v0 v1 v2 v3 v4 v5 v6 v7 (own_j q2)))])) _
    refine XS.iushr X0.here hx rfl (hb hby d_prog_21_method_13_code_16) rfl ?_
    show Steps p.tables e below (s₁.setTop (mkF m 17 #[.val (.ref a1), .val (.long q2), .second] [(.int (((own_el v0 v1 v2 v3 v4 v5 v6 v7 (own_j q2)).toUInt32 >>> ((((7 : Int64) - (q2 &&& (7 : Int64))).toInt32) &&& 31).toUInt32).toInt32))])) _
    refine XS.iconst X0.here hx rfl (hb hby d_prog_21_method_13_code_17) ?_
    show Steps p.tables e below (s₁.setTop (mkF m 18 #[.val (.ref a1), .val (.long q2), .second] [(.int (1 : Int32)), (.int (((own_el v0 v1 v2 v3 v4 v5 v6 v7 (own_j q2)).toUInt32 >>> ((((7 : Int64) - (q2 &&& (7 : Int64))).toInt32) &&& 31).toUInt32).toInt32))])) _
    refine XS.iand X0.here hx rfl (hb hby d_prog_21_method_13_code_18) rfl ?_
    show Steps p.tables e below (s₁.setTop (mkF m 19 #[.val (.ref a1), .val (.long q2), .second] [(.int ((((own_el v0 v1 v2 v3 v4 v5 v6 v7 (own_j q2)).toUInt32 >>> ((((7 : Int64) - (q2 &&& (7 : Int64))).toInt32) &&& 31).toUInt32).toInt32) &&& (1 : Int32)))])) _
    exact retI X0 hx Bd.returns (hb hby d_prog_21_method_13_code_19) hr
  · show Q_rmB Z a1 q2 k1 v0 v1 v2 v3 v4 v5 v6 v7 h0 n0 _ s₁.heap _
    rw [e0]
    exact ⟨by rw [hres], N0, rfl⟩
theorem rmB (l : Launch) (Z : State) (a0 : Array Value) (hw : ∀ d ∈ tables_1, d.before a0 Z = true) (ws : List Jvm.Cond) (a1 : Addr) (q2 : Int64) (k1 : ClassId) (v0 : Int32) (v1 : Int32) (v2 : Int32) (v3 : Int32) (v4 : Int32) (v5 : Int32) (v6 : Int32) (v7 : Int32) (h0 : Heap) (n0 : Nat) (Z0 : n0 ≤ h0.size) (V_a1 : Arv Z h0 a1 k1 .byte (8 : Int32) [(.int v0), (.int v1), (.int v2), (.int v3), (.int v4), (.int v5), (.int v6), (.int v7)] (.int (0 : Int32))) (hj : ¬ own_j q2 < 0 ∧ own_j q2 < 8) :
    MetFree l (⟨"org/lexpack/codec/BitString", "bit", "([BJ)I"⟩ : MethodName) (head1 (Jvm.Cond.code (⟨"org/lexpack/codec/BitString", "bit", "([BJ)I"⟩ : MethodName) prog_21_method_13_code 3 (some .int) :: ws) ({ frames := 0, cells := 0, slots := 0, locals := 0 } : Room)) (fun a U => a = #[(.ref a1), (.long q2)] ∧ Z.Warmed39 U.vm ∧ U.heap = h0) (fun _ _ _ _ _ => True) (fun _ U o U' => ∃ v L, o = .returned v ∧ Q_rmB Z a1 q2 k1 v0 v1 v2 v3 v4 v5 v6 v7 h0 n0 v U'.heap L ∧ FrameEnd U o U' L ({ frames := 0, cells := 0, slots := 0, locals := 0 } : Room).cells ({ frames := 0, cells := 0, slots := 0, locals := 0 } : Room).slots) := by
  exact rmB_x l Z a0 hw ws a1 q2 k1 v0 v1 v2 v3 v4 v5 v6 v7 h0 n0 Z0 V_a1 hj (by rfl)
theorem pd_0 : parseMethodDescriptor "([BJ)I" = some ⟨[(.array .byte), .long], some .int⟩ := by decide +kernel
def Q_rm0 (Z : State) (q1 : Int64) (p2 : Int32) (h0 : Heap) (n0 : Nat) (v : Option Value) (h : Heap) (L : List Loc) : Prop := v = some (.int (1 : Int32)) ∧ Fr n0 L ∧ Keep h0 h []
theorem pn_1 : plainName "org/lexpack/codec/BitStringBitPinLaw" = true := by first | (simp [plainName, overriddenIn]; done) | decide +kernel
theorem ef_1 (m : MethodId) (x0 : Int64) (x1 : Int32) : entryFrame m #[(.long x0), (.int x1)] maxLocals = mkF m 0 #[.val (.long x0), .second, .val (.int x1), .unset, .unset, .unset, .unset] [] := by first | (simp [entryFrame, mkF, argsToLocals, Value.category, maxLocals]; done) | rfl
set_option maxRecDepth 65536 in
set_option maxHeartbeats 40000000 in
theorem rm0_t (l : Launch) (Z : State) (a0 : Array Value) (hw : ∀ d ∈ tables_1, d.before a0 Z = true) (ws : List Jvm.Cond) (q1 : Int64) (p2 : Int32) (h0 : Heap) (n0 : Nat) (Z0 : n0 ≤ h0.size) (hc105 : (own_bit ((own_by q1 (56 : Int32)).toInt8.toInt32) ((own_by q1 (48 : Int32)).toInt8.toInt32) ((own_by q1 (40 : Int32)).toInt8.toInt32) ((own_by q1 (32 : Int32)).toInt8.toInt32) ((own_by q1 (24 : Int32)).toInt8.toInt32) ((own_by q1 (16 : Int32)).toInt8.toInt32) ((own_by q1 (8 : Int32)).toInt8.toInt32) ((own_by0 q1).toInt8.toInt32) (own_ix p2)) = (own_want q1 p2)) :
    MetFree l x (head1 (Jvm.Cond.code x code maxLocals ret :: ws) room_1) (fun a U => a = #[(.long q1), (.int p2)] ∧ Z.Warmed39 U.vm ∧ U.heap = h0) (fun _ _ _ _ _ => True) (fun _ U o U' => ∃ v L, o = .returned v ∧ Q_rm0 Z q1 p2 h0 n0 v U'.heap L ∧ FrameEnd U o U' L room_1.cells room_1.slots) := by
  refine MetFree.of_bodySF (plainFor_of_name pn_1) hisR ?_
  intro p e s m args below meth c s₁ Bd hml0 hP hK
  obtain ⟨rfl, hZ, hh⟩ := hP
  have hx := Bd.exec
  have hby := Bd.bytes
  have hml : c.maxLocals = 7 := hml0
  have hown : s.vm.findClass "org/lexpack/codec/BitStringBitPinLaw" = some m.cls := findClass_of_methodNamed Bd.named
  have hnm := (name_of_methodNamed Bd.named Bd.method).1
  have X0 : Stand p l e room_1 s m #[(.long q1), (.int p2)] below meth c s₁ [] 0 0 := Stand.of_body Bd
  have e0 : s₁.heap = h0 := by rw [← hh, Bd.state]; rfl
  have N0 := Fr.nil n0
  have pre0 : ∀ t, Steps p.tables e below (s₁.setTop (mkF m 0 #[.val (.long q1), .second, .val (.int p2), .unset, .unset, .unset, .unset] [])) t → Steps p.tables e below (s₁.setTop (entryFrame m #[(.long q1), (.int p2)] maxLocals)) t := fun t k => castTop (ef_1 m q1 p2) k
  obtain ⟨T1, h1, k1, X1, e1, E1, A1, st1⟩ := newP X0 hx hZ (hw _ (List.mem_of_getElem? (i := 0) rfl)) e0 (g := (mkF m 2 #[.val (.long q1), .second, .val (.int p2), .unset, .unset, .unset, .unset] [(.int (8 : Int32))])) rfl (hb hby at_2) rfl (by decide) (cap := 8) (by decide) (by decide) (by decide) (by decide)
  obtain ⟨b1, gg1⟩ : ∃ z, z = h0.size := ⟨_, rfl⟩
  rw [← gg1] at A1 st1
  have g_b1 : n0 ≤ b1 := Nat.le_trans Z0 (Nat.le_of_eq gg1.symm)
  have sz_b1 : h0.size ≤ b1 := Nat.le_trans (Keep.refl h0 []).1 (Nat.le_of_eq gg1.symm)
  have Q1 : Keep h0 h1 [] := (Keep.refl h0 []).ext E1
  have V_b1 : Arv Z h1 b1 k1 .byte (8 : Int32) [(.int (0 : Int32)), (.int (0 : Int32)), (.int (0 : Int32)), (.int (0 : Int32)), (.int (0 : Int32)), (.int (0 : Int32)), (.int (0 : Int32)), (.int (0 : Int32))] (.int (0 : Int32)) := (Arv.new A1 (by decide)).pad (pad_rep [] (.int (0 : Int32)) 8)
  obtain ⟨cl2, Ar2, q2, S2, M2, H2, G2⟩ := id V_b1
  have hin2 : ¬ ((0 : Int32) < 0 ∨ cl2.slots.size ≤ ((0 : Int32)).toNatClampNeg) := inb_of S2 ⟨by decide, (by decide)⟩
  obtain ⟨T3, h3, X3, e3, W3, st3⟩ := stB X1 hx hZ e1 Ar2 (j := (0 : Int32)) hin2 (g := (mkF m 13 #[.val (.long q1), .second, .val (.int p2), .val (.ref b1), .unset, .unset, .unset] [(.int (own_by q1 (56 : Int32))), (.int (0 : Int32)), (.ref b1)])) rfl rfl (hb hby at_13)
  have V3 : Arv Z h3 b1 k1 .byte (8 : Int32) [(.int ((own_by q1 (56 : Int32)).toInt8.toInt32)), (.int (0 : Int32)), (.int (0 : Int32)), (.int (0 : Int32)), (.int (0 : Int32)), (.int (0 : Int32)), (.int (0 : Int32)), (.int (0 : Int32))] (.int (0 : Int32)) := Arv.set Ar2 q2 S2 M2 H2 G2 (fits_nar_byte _) W3 0 rfl (Nat.le_of_ble_eq_true rfl)
  have Q3 : Keep h0 h3 [] := Q1.wr W3 (Or.inr sz_b1)
  have N3 := Fr.snoc X3 N0 g_b1
  obtain ⟨cl4, Ar4, q4, S4, M4, H4, G4⟩ := id V3
  have hin4 : ¬ ((1 : Int32) < 0 ∨ cl4.slots.size ≤ ((1 : Int32)).toNatClampNeg) := inb_of S4 ⟨by decide, (by decide)⟩
  obtain ⟨T5, h5, X5, e5, W5, st5⟩ := stB X3 hx hZ e3 Ar4 (j := (1 : Int32)) hin4 (g := (mkF m 22 #[.val (.long q1), .second, .val (.int p2), .val (.ref b1), .unset, .unset, .unset] [(.int (own_by q1 (48 : Int32))), (.int (1 : Int32)), (.ref b1)])) rfl rfl (hb hby at_22)
  have V5 : Arv Z h5 b1 k1 .byte (8 : Int32) [(.int ((own_by q1 (56 : Int32)).toInt8.toInt32)), (.int ((own_by q1 (48 : Int32)).toInt8.toInt32)), (.int (0 : Int32)), (.int (0 : Int32)), (.int (0 : Int32)), (.int (0 : Int32)), (.int (0 : Int32)), (.int (0 : Int32))] (.int (0 : Int32)) := Arv.set Ar4 q4 S4 M4 H4 G4 (fits_nar_byte _) W5 1 rfl (Nat.le_of_ble_eq_true rfl)
  have Q5 : Keep h0 h5 [] := Q3.wr W5 (Or.inr sz_b1)
  have N5 := Fr.snoc X5 N3 g_b1
  obtain ⟨cl6, Ar6, q6, S6, M6, H6, G6⟩ := id V5
  have hin6 : ¬ ((2 : Int32) < 0 ∨ cl6.slots.size ≤ ((2 : Int32)).toNatClampNeg) := inb_of S6 ⟨by decide, (by decide)⟩
  obtain ⟨T7, h7, X7, e7, W7, st7⟩ := stB X5 hx hZ e5 Ar6 (j := (2 : Int32)) hin6 (g := (mkF m 31 #[.val (.long q1), .second, .val (.int p2), .val (.ref b1), .unset, .unset, .unset] [(.int (own_by q1 (40 : Int32))), (.int (2 : Int32)), (.ref b1)])) rfl rfl (hb hby at_31)
  have V7 : Arv Z h7 b1 k1 .byte (8 : Int32) [(.int ((own_by q1 (56 : Int32)).toInt8.toInt32)), (.int ((own_by q1 (48 : Int32)).toInt8.toInt32)), (.int ((own_by q1 (40 : Int32)).toInt8.toInt32)), (.int (0 : Int32)), (.int (0 : Int32)), (.int (0 : Int32)), (.int (0 : Int32)), (.int (0 : Int32))] (.int (0 : Int32)) := Arv.set Ar6 q6 S6 M6 H6 G6 (fits_nar_byte _) W7 2 rfl (Nat.le_of_ble_eq_true rfl)
  have Q7 : Keep h0 h7 [] := Q5.wr W7 (Or.inr sz_b1)
  have N7 := Fr.snoc X7 N5 g_b1
  obtain ⟨cl8, Ar8, q8, S8, M8, H8, G8⟩ := id V7
  have hin8 : ¬ ((3 : Int32) < 0 ∨ cl8.slots.size ≤ ((3 : Int32)).toNatClampNeg) := inb_of S8 ⟨by decide, (by decide)⟩
  obtain ⟨T9, h9, X9, e9, W9, st9⟩ := stB X7 hx hZ e7 Ar8 (j := (3 : Int32)) hin8 (g := (mkF m 40 #[.val (.long q1), .second, .val (.int p2), .val (.ref b1), .unset, .unset, .unset] [(.int (own_by q1 (32 : Int32))), (.int (3 : Int32)), (.ref b1)])) rfl rfl (hb hby at_40)
  have V9 : Arv Z h9 b1 k1 .byte (8 : Int32) [(.int ((own_by q1 (56 : Int32)).toInt8.toInt32)), (.int ((own_by q1 (48 : Int32)).toInt8.toInt32)), (.int ((own_by q1 (40 : Int32)).toInt8.toInt32)), (.int ((own_by q1 (32 : Int32)).toInt8.toInt32)), (.int (0 : Int32)), (.int (0 : Int32)), (.int (0 : Int32)), (.int (0 : Int32))] (.int (0 : Int32)) := Arv.set Ar8 q8 S8 M8 H8 G8 (fits_nar_byte _) W9 3 rfl (Nat.le_of_ble_eq_true rfl)
  have Q9 : Keep h0 h9 [] := Q7.wr W9 (Or.inr sz_b1)
  have N9 := Fr.snoc X9 N7 g_b1
  obtain ⟨cl10, Ar10, q10, S10, M10, H10, G10⟩ := id V9
  have hin10 : ¬ ((4 : Int32) < 0 ∨ cl10.slots.size ≤ ((4 : Int32)).toNatClampNeg) := inb_of S10 ⟨by decide, (by decide)⟩
  obtain ⟨T11, h11, X11, e11, W11, st11⟩ := stB X9 hx hZ e9 Ar10 (j := (4 : Int32)) hin10 (g := (mkF m 49 #[.val (.long q1), .second, .val (.int p2), .val (.ref b1), .unset, .unset, .unset] [(.int (own_by q1 (24 : Int32))), (.int (4 : Int32)), (.ref b1)])) rfl rfl (hb hby at_49)
  have V11 : Arv Z h11 b1 k1 .byte (8 : Int32) [(.int ((own_by q1 (56 : Int32)).toInt8.toInt32)), (.int ((own_by q1 (48 : Int32)).toInt8.toInt32)), (.int ((own_by q1 (40 : Int32)).toInt8.toInt32)), (.int ((own_by q1 (32 : Int32)).toInt8.toInt32)), (.int ((own_by q1 (24 : Int32)).toInt8.toInt32)), (.int (0 : Int32)), (.int (0 : Int32)), (.int (0 : Int32))] (.int (0 : Int32)) := Arv.set Ar10 q10 S10 M10 H10 G10 (fits_nar_byte _) W11 4 rfl (Nat.le_of_ble_eq_true rfl)
  have Q11 : Keep h0 h11 [] := Q9.wr W11 (Or.inr sz_b1)
  have N11 := Fr.snoc X11 N9 g_b1
  obtain ⟨cl12, Ar12, q12, S12, M12, H12, G12⟩ := id V11
  have hin12 : ¬ ((5 : Int32) < 0 ∨ cl12.slots.size ≤ ((5 : Int32)).toNatClampNeg) := inb_of S12 ⟨by decide, (by decide)⟩
  obtain ⟨T13, h13, X13, e13, W13, st13⟩ := stB X11 hx hZ e11 Ar12 (j := (5 : Int32)) hin12 (g := (mkF m 58 #[.val (.long q1), .second, .val (.int p2), .val (.ref b1), .unset, .unset, .unset] [(.int (own_by q1 (16 : Int32))), (.int (5 : Int32)), (.ref b1)])) rfl rfl (hb hby at_58)
  have V13 : Arv Z h13 b1 k1 .byte (8 : Int32) [(.int ((own_by q1 (56 : Int32)).toInt8.toInt32)), (.int ((own_by q1 (48 : Int32)).toInt8.toInt32)), (.int ((own_by q1 (40 : Int32)).toInt8.toInt32)), (.int ((own_by q1 (32 : Int32)).toInt8.toInt32)), (.int ((own_by q1 (24 : Int32)).toInt8.toInt32)), (.int ((own_by q1 (16 : Int32)).toInt8.toInt32)), (.int (0 : Int32)), (.int (0 : Int32))] (.int (0 : Int32)) := Arv.set Ar12 q12 S12 M12 H12 G12 (fits_nar_byte _) W13 5 rfl (Nat.le_of_ble_eq_true rfl)
  have Q13 : Keep h0 h13 [] := Q11.wr W13 (Or.inr sz_b1)
  have N13 := Fr.snoc X13 N11 g_b1
  obtain ⟨cl14, Ar14, q14, S14, M14, H14, G14⟩ := id V13
  have hin14 : ¬ ((6 : Int32) < 0 ∨ cl14.slots.size ≤ ((6 : Int32)).toNatClampNeg) := inb_of S14 ⟨by decide, (by decide)⟩
  obtain ⟨T15, h15, X15, e15, W15, st15⟩ := stB X13 hx hZ e13 Ar14 (j := (6 : Int32)) hin14 (g := (mkF m 68 #[.val (.long q1), .second, .val (.int p2), .val (.ref b1), .unset, .unset, .unset] [(.int (own_by q1 (8 : Int32))), (.int (6 : Int32)), (.ref b1)])) rfl rfl (hb hby at_68)
  have V15 : Arv Z h15 b1 k1 .byte (8 : Int32) [(.int ((own_by q1 (56 : Int32)).toInt8.toInt32)), (.int ((own_by q1 (48 : Int32)).toInt8.toInt32)), (.int ((own_by q1 (40 : Int32)).toInt8.toInt32)), (.int ((own_by q1 (32 : Int32)).toInt8.toInt32)), (.int ((own_by q1 (24 : Int32)).toInt8.toInt32)), (.int ((own_by q1 (16 : Int32)).toInt8.toInt32)), (.int ((own_by q1 (8 : Int32)).toInt8.toInt32)), (.int (0 : Int32))] (.int (0 : Int32)) := Arv.set Ar14 q14 S14 M14 H14 G14 (fits_nar_byte _) W15 6 rfl (Nat.le_of_ble_eq_true rfl)
  have Q15 : Keep h0 h15 [] := Q13.wr W15 (Or.inr sz_b1)
  have N15 := Fr.snoc X15 N13 g_b1
  obtain ⟨cl16, Ar16, q16, S16, M16, H16, G16⟩ := id V15
  have hin16 : ¬ ((7 : Int32) < 0 ∨ cl16.slots.size ≤ ((7 : Int32)).toNatClampNeg) := inb_of S16 ⟨by decide, (by decide)⟩
  obtain ⟨T17, h17, X17, e17, W17, st17⟩ := stB X15 hx hZ e15 Ar16 (j := (7 : Int32)) hin16 (g := (mkF m 75 #[.val (.long q1), .second, .val (.int p2), .val (.ref b1), .unset, .unset, .unset] [(.int (own_by0 q1)), (.int (7 : Int32)), (.ref b1)])) rfl rfl (hb hby at_75)
  have V17 : Arv Z h17 b1 k1 .byte (8 : Int32) [(.int ((own_by q1 (56 : Int32)).toInt8.toInt32)), (.int ((own_by q1 (48 : Int32)).toInt8.toInt32)), (.int ((own_by q1 (40 : Int32)).toInt8.toInt32)), (.int ((own_by q1 (32 : Int32)).toInt8.toInt32)), (.int ((own_by q1 (24 : Int32)).toInt8.toInt32)), (.int ((own_by q1 (16 : Int32)).toInt8.toInt32)), (.int ((own_by q1 (8 : Int32)).toInt8.toInt32)), (.int ((own_by0 q1).toInt8.toInt32))] (.int (0 : Int32)) := Arv.set Ar16 q16 S16 M16 H16 G16 (fits_nar_byte _) W17 7 rfl (Nat.le_of_ble_eq_true rfl)
  have Q17 : Keep h0 h17 [] := Q15.wr W17 (Or.inr sz_b1)
  have N17 := Fr.snoc X17 N15 g_b1
  obtain ⟨_, _, ⟨T18, L18, k18, n18⟩, -, X18, ⟨Lc18, hQ18, l18, y18, z18⟩, st18⟩ := Jvm.LawKit.callS X17 hx (y := (⟨"org/lexpack/codec/BitString", "bit", "([BJ)I"⟩ : MethodName)) hown (mvT hZ (hw _ (List.mem_of_getElem? (i := 2) rfl))) (mvT hZ (hw _ (List.mem_of_getElem? (i := 3) rfl))) (mvT hZ (hw _ (List.mem_of_getElem? (i := 4) rfl))) (mvT hZ (hw _ (List.mem_of_getElem? (i := 5) rfl))) (by decide) (backOf (W := 0) (rmB l Z a0 hw [] b1 (own_ix p2) k1 ((own_by q1 (56 : Int32)).toInt8.toInt32) ((own_by q1 (48 : Int32)).toInt8.toInt32) ((own_by q1 (40 : Int32)).toInt8.toInt32) ((own_by q1 (32 : Int32)).toInt8.toInt32) ((own_by q1 (24 : Int32)).toInt8.toInt32) ((own_by q1 (16 : Int32)).toInt8.toInt32) ((own_by q1 (8 : Int32)).toInt8.toInt32) ((own_by0 q1).toInt8.toInt32) h17 n0 (Nat.le_trans (Nat.le_trans (Nat.le_trans (Nat.le_trans (Nat.le_trans (Nat.le_trans (Nat.le_trans (Nat.le_trans (Nat.le_trans Z0 E1.1) (Keep.of_wr W3).1) (Keep.of_wr W5).1) (Keep.of_wr W7).1) (Keep.of_wr W9).1) (Keep.of_wr W11).1) (Keep.of_wr W13).1) (Keep.of_wr W15).1) (Keep.of_wr W17).1) V17 (own_j_rng p2)) hZ (hw _ (List.mem_of_getElem? (i := 5) rfl)) (hw _ (List.mem_of_getElem? (i := 4) rfl)) (by decide) (by decide)) (g := (mkF m 100 #[.val (.long q1), .second, .val (.int p2), .val (.ref b1), .val (.long (own_ix p2)), .second, .val (.int (own_want q1 p2))] [(.long (own_ix p2)), (.ref b1)])) rfl (by rw [hml]; rfl) (argsL := [(.ref b1), (.long (own_ix p2))]) (rest := []) (lenOf pd_0 rfl) rfl (by show 2 * 0 + _ ≤ _; exact Nat.le_of_eq rfl) (hb hby at_100) (fun _ _ => ⟨rfl, e17, (by decide : 1 + 0 ≤ _), (by decide : 8 + 0 ≤ _)⟩)
  dsimp only [Pt.U, Pt.locs, Pt.cells, Pt.slots] at X18 l18 y18 z18 st18 hQ18
  subst l18 y18 z18
  obtain ⟨rfl, N18q, e18⟩ := hQ18
  have N18 := Fr.app N17 N18q
  obtain ⟨fs, hr, hrun, hended, hW, hsame⟩ := X18.leave (v := some (.int (1 : Int32))) (fun h => by rw [Bd.returns] at h; cases h)
  refine ⟨_, _, pre0 _ ?_, hrun, hended, _, _, rfl, ?_, ⟨_, rfl⟩, hW, hsame.mono (by decide) (by decide)⟩
  · show Steps p.tables e below (s₁.setTop (mkF m 0 #[.val (.long q1), .second, .val (.int p2), .unset, .unset, .unset, .unset] [])) _
    refine XS.bipush X0.here hx rfl (hb hby at_0) ?_
    show Steps p.tables e below (s₁.setTop (mkF m 2 #[.val (.long q1), .second, .val (.int p2), .unset, .unset, .unset, .unset] [(.int (8 : Int32))])) _
    refine st1 _ ?_
    show Steps p.tables e below (T1.setTop (mkF m 4 #[.val (.long q1), .second, .val (.int p2), .unset, .unset, .unset, .unset] [(.ref b1)])) _
    refine XS.astoreN X1.here hx rfl (hb hby at_4) rfl rfl (l' := #[.val (.long q1), .second, .val (.int p2), .val (.ref b1), .unset, .unset, .unset]) rfl ?_
    show Steps p.tables e below (T1.setTop (mkF m 5 #[.val (.long q1), .second, .val (.int p2), .val (.ref b1), .unset, .unset, .unset] [])) _
    refine XS.aloadN X1.here hx rfl (hb hby at_5) rfl rfl ?_
    show Steps p.tables e below (T1.setTop (mkF m 6 #[.val (.long q1), .second, .val (.int p2), .val (.ref b1), .unset, .unset, .unset] [(.ref b1)])) _
    refine XS.iconst X1.here hx rfl (hb hby at_6) ?_
    show Steps p.tables e below (T1.setTop (mkF m 7 #[.val (.long q1), .second, .val (.int p2), .val (.ref b1), .unset, .unset, .unset] [(.int (0 : Int32)), (.ref b1)])) _
    refine XS.lloadN X1.here hx rfl (hb hby at_7) rfl ?_
    show Steps p.tables e below (T1.setTop (mkF m 8 #[.val (.long q1), .second, .val (.int p2), .val (.ref b1), .unset, .unset, .unset] [(.long q1), (.int (0 : Int32)), (.ref b1)])) _
    refine XS.bipush X1.here hx rfl (hb hby at_8) ?_
    show Steps p.tables e below (T1.setTop (mkF m 10 #[.val (.long q1), .second, .val (.int p2), .val (.ref b1), .unset, .unset, .unset] [(.int (56 : Int32)), (.long q1), (.int (0 : Int32)), (.ref b1)])) _
    refine XS.lushr X1.here hx rfl (hb hby at_10) rfl ?_
    show Steps p.tables e below (T1.setTop (mkF m 11 #[.val (.long q1), .second, .val (.int p2), .val (.ref b1), .unset, .unset, .unset] [(.long ((q1.toUInt64 >>> ((56 : Int32) &&& 0x3f).toInt64.toUInt64).toInt64)), (.int (0 : Int32)), (.ref b1)])) _
    refine XS.l2i X1.here hx rfl (hb hby at_11) rfl ?_
    show Steps p.tables e below (T1.setTop (mkF m 12 #[.val (.long q1), .second, .val (.int p2), .val (.ref b1), .unset, .unset, .unset] [(.int (((q1.toUInt64 >>> ((56 : Int32) &&& 0x3f).toInt64.toUInt64).toInt64).toInt32)), (.int (0 : Int32)), (.ref b1)])) _
    refine XS.i2b X1.here hx rfl (hb hby at_12) rfl ?_
    show Steps p.tables e below (T1.setTop (mkF m 13 #[.val (.long q1), .second, .val (.int p2), .val (.ref b1), .unset, .unset, .unset] [(.int (own_by q1 (56 : Int32))), (.int (0 : Int32)), (.ref b1)])) _
    refine st3 _ ?_
    show Steps p.tables e below (T3.setTop (mkF m 14 #[.val (.long q1), .second, .val (.int p2), .val (.ref b1), .unset, .unset, .unset] [])) _
    refine XS.aloadN X3.here hx rfl (hb hby at_14) rfl rfl ?_
    show Steps p.tables e below (T3.setTop (mkF m 15 #[.val (.long q1), .second, .val (.int p2), .val (.ref b1), .unset, .unset, .unset] [(.ref b1)])) _
    refine XS.iconst X3.here hx rfl (hb hby at_15) ?_
    show Steps p.tables e below (T3.setTop (mkF m 16 #[.val (.long q1), .second, .val (.int p2), .val (.ref b1), .unset, .unset, .unset] [(.int (1 : Int32)), (.ref b1)])) _
    refine XS.lloadN X3.here hx rfl (hb hby at_16) rfl ?_
    show Steps p.tables e below (T3.setTop (mkF m 17 #[.val (.long q1), .second, .val (.int p2), .val (.ref b1), .unset, .unset, .unset] [(.long q1), (.int (1 : Int32)), (.ref b1)])) _
    refine XS.bipush X3.here hx rfl (hb hby at_17) ?_
    show Steps p.tables e below (T3.setTop (mkF m 19 #[.val (.long q1), .second, .val (.int p2), .val (.ref b1), .unset, .unset, .unset] [(.int (48 : Int32)), (.long q1), (.int (1 : Int32)), (.ref b1)])) _
    refine XS.lushr X3.here hx rfl (hb hby at_19) rfl ?_
    show Steps p.tables e below (T3.setTop (mkF m 20 #[.val (.long q1), .second, .val (.int p2), .val (.ref b1), .unset, .unset, .unset] [(.long ((q1.toUInt64 >>> ((48 : Int32) &&& 0x3f).toInt64.toUInt64).toInt64)), (.int (1 : Int32)), (.ref b1)])) _
    refine XS.l2i X3.here hx rfl (hb hby at_20) rfl ?_
    show Steps p.tables e below (T3.setTop (mkF m 21 #[.val (.long q1), .second, .val (.int p2), .val (.ref b1), .unset, .unset, .unset] [(.int (((q1.toUInt64 >>> ((48 : Int32) &&& 0x3f).toInt64.toUInt64).toInt64).toInt32)), (.int (1 : Int32)), (.ref b1)])) _
    refine XS.i2b X3.here hx rfl (hb hby at_21) rfl ?_
    show Steps p.tables e below (T3.setTop (mkF m 22 #[.val (.long q1), .second, .val (.int p2), .val (.ref b1), .unset, .unset, .unset] [(.int (own_by q1 (48 : Int32))), (.int (1 : Int32)), (.ref b1)])) _
    refine st5 _ ?_
    show Steps p.tables e below (T5.setTop (mkF m 23 #[.val (.long q1), .second, .val (.int p2), .val (.ref b1), .unset, .unset, .unset] [])) _
    refine XS.aloadN X5.here hx rfl (hb hby at_23) rfl rfl ?_
    show Steps p.tables e below (T5.setTop (mkF m 24 #[.val (.long q1), .second, .val (.int p2), .val (.ref b1), .unset, .unset, .unset] [(.ref b1)])) _
    refine XS.iconst X5.here hx rfl (hb hby at_24) ?_
    show Steps p.tables e below (T5.setTop (mkF m 25 #[.val (.long q1), .second, .val (.int p2), .val (.ref b1), .unset, .unset, .unset] [(.int (2 : Int32)), (.ref b1)])) _
    refine XS.lloadN X5.here hx rfl (hb hby at_25) rfl ?_
    show Steps p.tables e below (T5.setTop (mkF m 26 #[.val (.long q1), .second, .val (.int p2), .val (.ref b1), .unset, .unset, .unset] [(.long q1), (.int (2 : Int32)), (.ref b1)])) _
    refine XS.bipush X5.here hx rfl (hb hby at_26) ?_
    show Steps p.tables e below (T5.setTop (mkF m 28 #[.val (.long q1), .second, .val (.int p2), .val (.ref b1), .unset, .unset, .unset] [(.int (40 : Int32)), (.long q1), (.int (2 : Int32)), (.ref b1)])) _
    refine XS.lushr X5.here hx rfl (hb hby at_28) rfl ?_
    show Steps p.tables e below (T5.setTop (mkF m 29 #[.val (.long q1), .second, .val (.int p2), .val (.ref b1), .unset, .unset, .unset] [(.long ((q1.toUInt64 >>> ((40 : Int32) &&& 0x3f).toInt64.toUInt64).toInt64)), (.int (2 : Int32)), (.ref b1)])) _
    refine XS.l2i X5.here hx rfl (hb hby at_29) rfl ?_
    show Steps p.tables e below (T5.setTop (mkF m 30 #[.val (.long q1), .second, .val (.int p2), .val (.ref b1), .unset, .unset, .unset] [(.int (((q1.toUInt64 >>> ((40 : Int32) &&& 0x3f).toInt64.toUInt64).toInt64).toInt32)), (.int (2 : Int32)), (.ref b1)])) _
    refine XS.i2b X5.here hx rfl (hb hby at_30) rfl ?_
    show Steps p.tables e below (T5.setTop (mkF m 31 #[.val (.long q1), .second, .val (.int p2), .val (.ref b1), .unset, .unset, .unset] [(.int (own_by q1 (40 : Int32))), (.int (2 : Int32)), (.ref b1)])) _
    refine st7 _ ?_
    show Steps p.tables e below (T7.setTop (mkF m 32 #[.val (.long q1), .second, .val (.int p2), .val (.ref b1), .unset, .unset, .unset] [])) _
    refine XS.aloadN X7.here hx rfl (hb hby at_32) rfl rfl ?_
    show Steps p.tables e below (T7.setTop (mkF m 33 #[.val (.long q1), .second, .val (.int p2), .val (.ref b1), .unset, .unset, .unset] [(.ref b1)])) _
    refine XS.iconst X7.here hx rfl (hb hby at_33) ?_
    show Steps p.tables e below (T7.setTop (mkF m 34 #[.val (.long q1), .second, .val (.int p2), .val (.ref b1), .unset, .unset, .unset] [(.int (3 : Int32)), (.ref b1)])) _
    refine XS.lloadN X7.here hx rfl (hb hby at_34) rfl ?_
    show Steps p.tables e below (T7.setTop (mkF m 35 #[.val (.long q1), .second, .val (.int p2), .val (.ref b1), .unset, .unset, .unset] [(.long q1), (.int (3 : Int32)), (.ref b1)])) _
    refine XS.bipush X7.here hx rfl (hb hby at_35) ?_
    show Steps p.tables e below (T7.setTop (mkF m 37 #[.val (.long q1), .second, .val (.int p2), .val (.ref b1), .unset, .unset, .unset] [(.int (32 : Int32)), (.long q1), (.int (3 : Int32)), (.ref b1)])) _
    refine XS.lushr X7.here hx rfl (hb hby at_37) rfl ?_
    show Steps p.tables e below (T7.setTop (mkF m 38 #[.val (.long q1), .second, .val (.int p2), .val (.ref b1), .unset, .unset, .unset] [(.long ((q1.toUInt64 >>> ((32 : Int32) &&& 0x3f).toInt64.toUInt64).toInt64)), (.int (3 : Int32)), (.ref b1)])) _
    refine XS.l2i X7.here hx rfl (hb hby at_38) rfl ?_
    show Steps p.tables e below (T7.setTop (mkF m 39 #[.val (.long q1), .second, .val (.int p2), .val (.ref b1), .unset, .unset, .unset] [(.int (((q1.toUInt64 >>> ((32 : Int32) &&& 0x3f).toInt64.toUInt64).toInt64).toInt32)), (.int (3 : Int32)), (.ref b1)])) _
    refine XS.i2b X7.here hx rfl (hb hby at_39) rfl ?_
    show Steps p.tables e below (T7.setTop (mkF m 40 #[.val (.long q1), .second, .val (.int p2), .val (.ref b1), .unset, .unset, .unset] [(.int (own_by q1 (32 : Int32))), (.int (3 : Int32)), (.ref b1)])) _
    refine st9 _ ?_
    show Steps p.tables e below (T9.setTop (mkF m 41 #[.val (.long q1), .second, .val (.int p2), .val (.ref b1), .unset, .unset, .unset] [])) _
    refine XS.aloadN X9.here hx rfl (hb hby at_41) rfl rfl ?_
    show Steps p.tables e below (T9.setTop (mkF m 42 #[.val (.long q1), .second, .val (.int p2), .val (.ref b1), .unset, .unset, .unset] [(.ref b1)])) _
    refine XS.iconst X9.here hx rfl (hb hby at_42) ?_
    show Steps p.tables e below (T9.setTop (mkF m 43 #[.val (.long q1), .second, .val (.int p2), .val (.ref b1), .unset, .unset, .unset] [(.int (4 : Int32)), (.ref b1)])) _
    refine XS.lloadN X9.here hx rfl (hb hby at_43) rfl ?_
    show Steps p.tables e below (T9.setTop (mkF m 44 #[.val (.long q1), .second, .val (.int p2), .val (.ref b1), .unset, .unset, .unset] [(.long q1), (.int (4 : Int32)), (.ref b1)])) _
    refine XS.bipush X9.here hx rfl (hb hby at_44) ?_
    show Steps p.tables e below (T9.setTop (mkF m 46 #[.val (.long q1), .second, .val (.int p2), .val (.ref b1), .unset, .unset, .unset] [(.int (24 : Int32)), (.long q1), (.int (4 : Int32)), (.ref b1)])) _
    refine XS.lushr X9.here hx rfl (hb hby at_46) rfl ?_
    show Steps p.tables e below (T9.setTop (mkF m 47 #[.val (.long q1), .second, .val (.int p2), .val (.ref b1), .unset, .unset, .unset] [(.long ((q1.toUInt64 >>> ((24 : Int32) &&& 0x3f).toInt64.toUInt64).toInt64)), (.int (4 : Int32)), (.ref b1)])) _
    refine XS.l2i X9.here hx rfl (hb hby at_47) rfl ?_
    show Steps p.tables e below (T9.setTop (mkF m 48 #[.val (.long q1), .second, .val (.int p2), .val (.ref b1), .unset, .unset, .unset] [(.int (((q1.toUInt64 >>> ((24 : Int32) &&& 0x3f).toInt64.toUInt64).toInt64).toInt32)), (.int (4 : Int32)), (.ref b1)])) _
    refine XS.i2b X9.here hx rfl (hb hby at_48) rfl ?_
    show Steps p.tables e below (T9.setTop (mkF m 49 #[.val (.long q1), .second, .val (.int p2), .val (.ref b1), .unset, .unset, .unset] [(.int (own_by q1 (24 : Int32))), (.int (4 : Int32)), (.ref b1)])) _
    refine st11 _ ?_
    show Steps p.tables e below (T11.setTop (mkF m 50 #[.val (.long q1), .second, .val (.int p2), .val (.ref b1), .unset, .unset, .unset] [])) _
    refine XS.aloadN X11.here hx rfl (hb hby at_50) rfl rfl ?_
    show Steps p.tables e below (T11.setTop (mkF m 51 #[.val (.long q1), .second, .val (.int p2), .val (.ref b1), .unset, .unset, .unset] [(.ref b1)])) _
    refine XS.iconst X11.here hx rfl (hb hby at_51) ?_
    show Steps p.tables e below (T11.setTop (mkF m 52 #[.val (.long q1), .second, .val (.int p2), .val (.ref b1), .unset, .unset, .unset] [(.int (5 : Int32)), (.ref b1)])) _
    refine XS.lloadN X11.here hx rfl (hb hby at_52) rfl ?_
    show Steps p.tables e below (T11.setTop (mkF m 53 #[.val (.long q1), .second, .val (.int p2), .val (.ref b1), .unset, .unset, .unset] [(.long q1), (.int (5 : Int32)), (.ref b1)])) _
    refine XS.bipush X11.here hx rfl (hb hby at_53) ?_
    show Steps p.tables e below (T11.setTop (mkF m 55 #[.val (.long q1), .second, .val (.int p2), .val (.ref b1), .unset, .unset, .unset] [(.int (16 : Int32)), (.long q1), (.int (5 : Int32)), (.ref b1)])) _
    refine XS.lushr X11.here hx rfl (hb hby at_55) rfl ?_
    show Steps p.tables e below (T11.setTop (mkF m 56 #[.val (.long q1), .second, .val (.int p2), .val (.ref b1), .unset, .unset, .unset] [(.long ((q1.toUInt64 >>> ((16 : Int32) &&& 0x3f).toInt64.toUInt64).toInt64)), (.int (5 : Int32)), (.ref b1)])) _
    refine XS.l2i X11.here hx rfl (hb hby at_56) rfl ?_
    show Steps p.tables e below (T11.setTop (mkF m 57 #[.val (.long q1), .second, .val (.int p2), .val (.ref b1), .unset, .unset, .unset] [(.int (((q1.toUInt64 >>> ((16 : Int32) &&& 0x3f).toInt64.toUInt64).toInt64).toInt32)), (.int (5 : Int32)), (.ref b1)])) _
    refine XS.i2b X11.here hx rfl (hb hby at_57) rfl ?_
    show Steps p.tables e below (T11.setTop (mkF m 58 #[.val (.long q1), .second, .val (.int p2), .val (.ref b1), .unset, .unset, .unset] [(.int (own_by q1 (16 : Int32))), (.int (5 : Int32)), (.ref b1)])) _
    refine st13 _ ?_
    show Steps p.tables e below (T13.setTop (mkF m 59 #[.val (.long q1), .second, .val (.int p2), .val (.ref b1), .unset, .unset, .unset] [])) _
    refine XS.aloadN X13.here hx rfl (hb hby at_59) rfl rfl ?_
    show Steps p.tables e below (T13.setTop (mkF m 60 #[.val (.long q1), .second, .val (.int p2), .val (.ref b1), .unset, .unset, .unset] [(.ref b1)])) _
    refine XS.bipush X13.here hx rfl (hb hby at_60) ?_
    show Steps p.tables e below (T13.setTop (mkF m 62 #[.val (.long q1), .second, .val (.int p2), .val (.ref b1), .unset, .unset, .unset] [(.int (6 : Int32)), (.ref b1)])) _
    refine XS.lloadN X13.here hx rfl (hb hby at_62) rfl ?_
    show Steps p.tables e below (T13.setTop (mkF m 63 #[.val (.long q1), .second, .val (.int p2), .val (.ref b1), .unset, .unset, .unset] [(.long q1), (.int (6 : Int32)), (.ref b1)])) _
    refine XS.bipush X13.here hx rfl (hb hby at_63) ?_
    show Steps p.tables e below (T13.setTop (mkF m 65 #[.val (.long q1), .second, .val (.int p2), .val (.ref b1), .unset, .unset, .unset] [(.int (8 : Int32)), (.long q1), (.int (6 : Int32)), (.ref b1)])) _
    refine XS.lushr X13.here hx rfl (hb hby at_65) rfl ?_
    show Steps p.tables e below (T13.setTop (mkF m 66 #[.val (.long q1), .second, .val (.int p2), .val (.ref b1), .unset, .unset, .unset] [(.long ((q1.toUInt64 >>> ((8 : Int32) &&& 0x3f).toInt64.toUInt64).toInt64)), (.int (6 : Int32)), (.ref b1)])) _
    refine XS.l2i X13.here hx rfl (hb hby at_66) rfl ?_
    show Steps p.tables e below (T13.setTop (mkF m 67 #[.val (.long q1), .second, .val (.int p2), .val (.ref b1), .unset, .unset, .unset] [(.int (((q1.toUInt64 >>> ((8 : Int32) &&& 0x3f).toInt64.toUInt64).toInt64).toInt32)), (.int (6 : Int32)), (.ref b1)])) _
    refine XS.i2b X13.here hx rfl (hb hby at_67) rfl ?_
    show Steps p.tables e below (T13.setTop (mkF m 68 #[.val (.long q1), .second, .val (.int p2), .val (.ref b1), .unset, .unset, .unset] [(.int (own_by q1 (8 : Int32))), (.int (6 : Int32)), (.ref b1)])) _
    refine st15 _ ?_
    show Steps p.tables e below (T15.setTop (mkF m 69 #[.val (.long q1), .second, .val (.int p2), .val (.ref b1), .unset, .unset, .unset] [])) _
    refine XS.aloadN X15.here hx rfl (hb hby at_69) rfl rfl ?_
    show Steps p.tables e below (T15.setTop (mkF m 70 #[.val (.long q1), .second, .val (.int p2), .val (.ref b1), .unset, .unset, .unset] [(.ref b1)])) _
    refine XS.bipush X15.here hx rfl (hb hby at_70) ?_
    show Steps p.tables e below (T15.setTop (mkF m 72 #[.val (.long q1), .second, .val (.int p2), .val (.ref b1), .unset, .unset, .unset] [(.int (7 : Int32)), (.ref b1)])) _
    refine XS.lloadN X15.here hx rfl (hb hby at_72) rfl ?_
    show Steps p.tables e below (T15.setTop (mkF m 73 #[.val (.long q1), .second, .val (.int p2), .val (.ref b1), .unset, .unset, .unset] [(.long q1), (.int (7 : Int32)), (.ref b1)])) _
    refine XS.l2i X15.here hx rfl (hb hby at_73) rfl ?_
    show Steps p.tables e below (T15.setTop (mkF m 74 #[.val (.long q1), .second, .val (.int p2), .val (.ref b1), .unset, .unset, .unset] [(.int (q1.toInt32)), (.int (7 : Int32)), (.ref b1)])) _
    refine XS.i2b X15.here hx rfl (hb hby at_74) rfl ?_
    show Steps p.tables e below (T15.setTop (mkF m 75 #[.val (.long q1), .second, .val (.int p2), .val (.ref b1), .unset, .unset, .unset] [(.int (own_by0 q1)), (.int (7 : Int32)), (.ref b1)])) _
    refine st17 _ ?_
    show Steps p.tables e below (T17.setTop (mkF m 76 #[.val (.long q1), .second, .val (.int p2), .val (.ref b1), .unset, .unset, .unset] [])) _
    refine XS.iloadN X17.here hx rfl (hb hby at_76) rfl ?_
    show Steps p.tables e below (T17.setTop (mkF m 77 #[.val (.long q1), .second, .val (.int p2), .val (.ref b1), .unset, .unset, .unset] [(.int p2)])) _
    refine XS.bipush X17.here hx rfl (hb hby at_77) ?_
    show Steps p.tables e below (T17.setTop (mkF m 79 #[.val (.long q1), .second, .val (.int p2), .val (.ref b1), .unset, .unset, .unset] [(.int (63 : Int32)), (.int p2)])) _
    refine XS.iand X17.here hx rfl (hb hby at_79) rfl ?_
    show Steps p.tables e below (T17.setTop (mkF m 80 #[.val (.long q1), .second, .val (.int p2), .val (.ref b1), .unset, .unset, .unset] [(.int (p2 &&& (63 : Int32)))])) _
    refine XS.i2l X17.here hx rfl (hb hby at_80) rfl ?_
    show Steps p.tables e below (T17.setTop (mkF m 81 #[.val (.long q1), .second, .val (.int p2), .val (.ref b1), .unset, .unset, .unset] [(.long (own_ix p2))])) _
    refine XS.lstore X17.here hx rfl (hb hby at_81) rfl (l' := #[.val (.long q1), .second, .val (.int p2), .val (.ref b1), .val (.long (own_ix p2)), .second, .unset]) rfl ?_
    show Steps p.tables e below (T17.setTop (mkF m 83 #[.val (.long q1), .second, .val (.int p2), .val (.ref b1), .val (.long (own_ix p2)), .second, .unset] [])) _
    refine XS.lloadN X17.here hx rfl (hb hby at_83) rfl ?_
    show Steps p.tables e below (T17.setTop (mkF m 84 #[.val (.long q1), .second, .val (.int p2), .val (.ref b1), .val (.long (own_ix p2)), .second, .unset] [(.long q1)])) _
    refine X17.ldc2J hx hown (mvT hZ (hw _ (List.mem_of_getElem? (i := 1) rfl))) (g := (mkF m 84 #[.val (.long q1), .second, .val (.int p2), .val (.ref b1), .val (.long (own_ix p2)), .second, .unset] [(.long q1)])) rfl (hb hby at_84) ?_
    show Steps p.tables e below (T17.setTop (mkF m 87 #[.val (.long q1), .second, .val (.int p2), .val (.ref b1), .val (.long (own_ix p2)), .second, .unset] [(.long (63 : Int64)), (.long q1)])) _
    refine XS.lload X17.here hx rfl (hb hby at_87) rfl ?_
    show Steps p.tables e below (T17.setTop (mkF m 89 #[.val (.long q1), .second, .val (.int p2), .val (.ref b1), .val (.long (own_ix p2)), .second, .unset] [(.long (own_ix p2)), (.long (63 : Int64)), (.long q1)])) _
    refine XS.lsub X17.here hx rfl (hb hby at_89) rfl ?_
    show Steps p.tables e below (T17.setTop (mkF m 90 #[.val (.long q1), .second, .val (.int p2), .val (.ref b1), .val (.long (own_ix p2)), .second, .unset] [(.long ((63 : Int64) - (own_ix p2))), (.long q1)])) _
    refine XS.l2i X17.here hx rfl (hb hby at_90) rfl ?_
    show Steps p.tables e below (T17.setTop (mkF m 91 #[.val (.long q1), .second, .val (.int p2), .val (.ref b1), .val (.long (own_ix p2)), .second, .unset] [(.int (((63 : Int64) - (own_ix p2)).toInt32)), (.long q1)])) _
    refine XS.lushr X17.here hx rfl (hb hby at_91) rfl ?_
    show Steps p.tables e below (T17.setTop (mkF m 92 #[.val (.long q1), .second, .val (.int p2), .val (.ref b1), .val (.long (own_ix p2)), .second, .unset] [(.long ((q1.toUInt64 >>> ((((63 : Int64) - (own_ix p2)).toInt32) &&& 0x3f).toInt64.toUInt64).toInt64))])) _
    refine XS.lconst X17.here hx rfl (hb hby at_92) ?_
    show Steps p.tables e below (T17.setTop (mkF m 93 #[.val (.long q1), .second, .val (.int p2), .val (.ref b1), .val (.long (own_ix p2)), .second, .unset] [(.long (1 : Int64)), (.long ((q1.toUInt64 >>> ((((63 : Int64) - (own_ix p2)).toInt32) &&& 0x3f).toInt64.toUInt64).toInt64))])) _
    refine XS.land X17.here hx rfl (hb hby at_93) rfl ?_
    show Steps p.tables e below (T17.setTop (mkF m 94 #[.val (.long q1), .second, .val (.int p2), .val (.ref b1), .val (.long (own_ix p2)), .second, .unset] [(.long (((q1.toUInt64 >>> ((((63 : Int64) - (own_ix p2)).toInt32) &&& 0x3f).toInt64.toUInt64).toInt64) &&& (1 : Int64)))])) _
    refine XS.l2i X17.here hx rfl (hb hby at_94) rfl ?_
    show Steps p.tables e below (T17.setTop (mkF m 95 #[.val (.long q1), .second, .val (.int p2), .val (.ref b1), .val (.long (own_ix p2)), .second, .unset] [(.int (own_want q1 p2))])) _
    refine XS.istore X17.here hx rfl (hb hby at_95) rfl (l' := #[.val (.long q1), .second, .val (.int p2), .val (.ref b1), .val (.long (own_ix p2)), .second, .val (.int (own_want q1 p2))]) rfl ?_
    show Steps p.tables e below (T17.setTop (mkF m 97 #[.val (.long q1), .second, .val (.int p2), .val (.ref b1), .val (.long (own_ix p2)), .second, .val (.int (own_want q1 p2))] [])) _
    refine XS.aloadN X17.here hx rfl (hb hby at_97) rfl rfl ?_
    show Steps p.tables e below (T17.setTop (mkF m 98 #[.val (.long q1), .second, .val (.int p2), .val (.ref b1), .val (.long (own_ix p2)), .second, .val (.int (own_want q1 p2))] [(.ref b1)])) _
    refine XS.lload X17.here hx rfl (hb hby at_98) rfl ?_
    show Steps p.tables e below (T17.setTop (mkF m 100 #[.val (.long q1), .second, .val (.int p2), .val (.ref b1), .val (.long (own_ix p2)), .second, .val (.int (own_want q1 p2))] [(.long (own_ix p2)), (.ref b1)])) _
    refine st18 _ ?_
    show Steps p.tables e below (T18.setTop (mkF m 103 #[.val (.long q1), .second, .val (.int p2), .val (.ref b1), .val (.long (own_ix p2)), .second, .val (.int (own_want q1 p2))] [(.int (own_bit ((own_by q1 (56 : Int32)).toInt8.toInt32) ((own_by q1 (48 : Int32)).toInt8.toInt32) ((own_by q1 (40 : Int32)).toInt8.toInt32) ((own_by q1 (32 : Int32)).toInt8.toInt32) ((own_by q1 (24 : Int32)).toInt8.toInt32) ((own_by q1 (16 : Int32)).toInt8.toInt32) ((own_by q1 (8 : Int32)).toInt8.toInt32) ((own_by0 q1).toInt8.toInt32) (own_ix p2)))])) _
    refine XS.iload X18.here hx rfl (hb hby at_103) rfl ?_
    show Steps p.tables e below (T18.setTop (mkF m 105 #[.val (.long q1), .second, .val (.int p2), .val (.ref b1), .val (.long (own_ix p2)), .second, .val (.int (own_want q1 p2))] [(.int (own_want q1 p2)), (.int (own_bit ((own_by q1 (56 : Int32)).toInt8.toInt32) ((own_by q1 (48 : Int32)).toInt8.toInt32) ((own_by q1 (40 : Int32)).toInt8.toInt32) ((own_by q1 (32 : Int32)).toInt8.toInt32) ((own_by q1 (24 : Int32)).toInt8.toInt32) ((own_by q1 (16 : Int32)).toInt8.toInt32) ((own_by q1 (8 : Int32)).toInt8.toInt32) ((own_by0 q1).toInt8.toInt32) (own_ix p2)))])) _
    refine XS.icmpNo X18.here hx rfl (hb hby at_105) rfl (teq hc105).2 ?_
    show Steps p.tables e below (T18.setTop (mkF m 108 #[.val (.long q1), .second, .val (.int p2), .val (.ref b1), .val (.long (own_ix p2)), .second, .val (.int (own_want q1 p2))] [])) _
    refine XS.iconst X18.here hx rfl (hb hby at_108) ?_
    show Steps p.tables e below (T18.setTop (mkF m 109 #[.val (.long q1), .second, .val (.int p2), .val (.ref b1), .val (.long (own_ix p2)), .second, .val (.int (own_want q1 p2))] [(.int (1 : Int32))])) _
    refine XS.goto X18.here hx rfl (pc0 := 109) (pc' := 113) rfl (hb hby at_109) (by decide) (by decide) ?_
    show Steps p.tables e below (T18.setTop (mkF m 113 #[.val (.long q1), .second, .val (.int p2), .val (.ref b1), .val (.long (own_ix p2)), .second, .val (.int (own_want q1 p2))] [(.int (1 : Int32))])) _
    exact retN X18 hx (t := .boolean) Bd.returns (by simp) (hb hby at_113) hr
  · show Q_rm0 Z q1 p2 h0 n0 _ T18.heap _
    rw [e18]
    exact ⟨rfl, N18, Q17⟩
theorem rm0 (l : Launch) (Z : State) (a0 : Array Value) (hw : ∀ d ∈ tables_1, d.before a0 Z = true) (ws : List Jvm.Cond) (q1 : Int64) (p2 : Int32) (h0 : Heap) (n0 : Nat) (Z0 : n0 ≤ h0.size) :
    MetFree l x (head1 (Jvm.Cond.code x code maxLocals ret :: ws) room_1) (fun a U => a = #[(.long q1), (.int p2)] ∧ Z.Warmed39 U.vm ∧ U.heap = h0) (fun _ _ _ _ _ => True) (fun _ U o U' => ∃ v L, o = .returned v ∧ Q_rm0 Z q1 p2 h0 n0 v U'.heap L ∧ FrameEnd U o U' L room_1.cells room_1.slots) := by
  by_cases hc105 : (own_bit ((own_by q1 (56 : Int32)).toInt8.toInt32) ((own_by q1 (48 : Int32)).toInt8.toInt32) ((own_by q1 (40 : Int32)).toInt8.toInt32) ((own_by q1 (32 : Int32)).toInt8.toInt32) ((own_by q1 (24 : Int32)).toInt8.toInt32) ((own_by q1 (16 : Int32)).toInt8.toInt32) ((own_by q1 (8 : Int32)).toInt8.toInt32) ((own_by0 q1).toInt8.toInt32) (own_ix p2)) = (own_want q1 p2)
  · skip
    exact rm0_t l Z a0 hw ws q1 p2 h0 n0 Z0 hc105
  · skip
    exfalso
    exact hc105 (own_law q1 p2)
set_option maxRecDepth 65536 in
set_option maxHeartbeats 40000000 in
theorem comes_1 {Post : Tables → Env → Array Value → State → Outcome → State → Prop} (hpost : ∀ tb e args s v u, (limb_1_1.after args s (.returned v) u = true ∧ limb_1_2.after args s (.returned v) u = true ∧ True) → FrameEnd s (.returned v) u (Jvm.fieldLocs frame_1_writes args s ++ Jvm.arrayLocs frame_1_arrays args s ++ Jvm.staticLocs frame_1_statics s) 16 128 → Post tb e args s (.returned v) u) :
    ArmFor flags0 classFile x code maxLocals ret World_1 tables_1 room_1 Calls_1 rest_1 Pre_1 Post := by
  intro l hfl _ _ p e ha hc hk s m args below hf hA hF happ hP
  obtain ⟨hcalls, hrest, hpre⟩ := hP
  obtain ⟨-, -, -, hnamed, -, -, -, hat⟩ := (Spec.applies_iff hf).mp happ
  obtain ⟨hg, hn⟩ := and_e (Cond.before_iff.mp (show (Jvm.Cond.and given_1 narrow_1).before args s = true from hpre))
  obtain ⟨g0, gr0⟩ := and_e hg
  obtain ⟨g1, gr1⟩ := and_e gr0
  obtain ⟨w0, w1, rfl⟩ : ∃ w0 w1 : Value, args = #[w0, w1] := by
    have hs : args.size = 2 := by simpa [Cond.value, given_1] using g0
    obtain ⟨L⟩ := args
    match L, hs with
    | [w0, w1], _ => exact ⟨w0, w1, rfl⟩
  have hw := fun d (hd : d ∈ tables_1) => atoms_spec (ws := Jvm.Cond.code x code maxLocals ret :: tables_1) hat d (List.mem_cons_of_mem _ hd)
  have hfit : Fit s := fun {y c} hc i hi => by
    obtain ⟨ha, rfl⟩ := Array.getElem?_eq_some_iff.mp hc
    have q := List.all_eq_true.mp ((Array.all_eq_true_iff_forall_mem.mp hF) _ (Array.getElem_mem ha)) i (List.mem_range.mpr hi)
    simpa [Array.getElem?_eq_getElem hi] using q
  obtain ⟨i0, ei0⟩ := isL_v g1
  obtain rfl : w0 = (.long i0) := Option.some.inj ei0
  obtain ⟨i1, ei1⟩ := is_v gr1
  obtain rfl : w1 = (.int i1) := Option.some.inj ei1
  obtain ⟨n, o, h1, h2, h3, _, L, rfl, ⟨rfl, N, -⟩, hq⟩ := rm0 l s _ hw tables_1 i0 i1  s.heap s.heap.size (Nat.le_refl _)  p e ha hc hk s m _ below hf ((Spec.applies_iff_loose hf).mp happ).1 ⟨rfl, State.Warmed39.refl s, rfl⟩ trivial
  refine ⟨n, _, h1, h2, h3, hpost _ _ _ _ _ _ ⟨Cond.after_iff.mpr rfl, Cond.after_iff.mpr (eq_i res_at (Term.int_eval (1)) rfl), trivial⟩ ⟨hq.1, hq.2.1, (hq.2.2.sift fun y hy => Or.inr (N y hy)).mono (by decide) (by decide)⟩⟩
theorem main_1_1 : Claimed_1_1 := comes_1 fun _ _ _ _ _ _ h hF => ⟨h.1, hF⟩
theorem main_1_2 : Claimed_1_2 := comes_1 fun _ _ _ _ _ _ h hF => ⟨h.2.1, hF⟩
end Jvm.Pilot.@@N@@
namespace Jvm.Pilot.@@N@@
open Jvm Jvm.ClassFile Sem Op Lib Jvm.Free Jvm.Stand Jvm.Pilot.@@N@@.Jvm.D
/-! MADE BY PROGRAM (witnessworld.py) out of the Statement's table words and the real class files: 9 classes; the members and pool entries that the words name. The judged class is class 1, her method 1. -/
namespace start1
open Jvm.ClassFile
def u (s : String) : CpInfo := .utf8 (stringToUtf16 s)
/-- a pool by its gaps: so many unusable entries, then the entry; so many at the end -/
def gap : Nat → List CpInfo → List CpInfo
  | 0, r => r
  | n + 1, r => .unusable :: gap n r
def poolList (es : List (Nat × CpInfo)) (last : Nat) : List CpInfo := es.foldr (fun e r => gap e.1 (e.2 :: r)) (gap last [])
def pool (es : List (Nat × CpInfo)) (last : Nat) : Array CpInfo := ⟨poolList es last⟩
def fileOf (pool : Array CpInfo) (this : Nat) (attrs : Array Attribute := #[]) (ms : Array MethodInfo := #[]) (fl : Nat := 33) (sup : Nat := 0) (ifs : Array Nat := #[]) (fds : Array FieldInfo := #[]) : ClassFile where
  minorVersion := 0
  majorVersion := 65
  constantPool := pool
  accessFlags := fl
  thisClass := this
  superClass := sup
  interfaces := ifs
  fields := fds
  methods := ms
  attributes := attrs
def plain (name : String) (sup : Option ClassId) : Class where
  name := name
  kind := .ordinary
  loader := none
  accessFlags := 33
  super := sup
  interfaces := #[]
  cf := none
  fields := #[]
  methods := #[]
  instanceTypes := #[]
  staticTypes := #[]
  resolved := #[]
  callSites := []
  init := .initialized
  statics := none
  mirror := none

def pool0 : Array CpInfo := pool [(5, u "<init>"), (0, u "()V"), (1, .class_ 10), (1, u "java/lang/Object")] 113

def k0m0 : Method := { name := "<init>", desc := "()V", sig := { parameters := [], returnType := none }, accessFlags := 1, code := none }
/-- java/lang/Object -/
def k0 : Class := { plain "java/lang/Object" none with
  accessFlags := 33
  interfaces := #[]
  cf := some (fileOf pool0 8 #[] #[{ accessFlags := 1, nameIndex := 5, descriptorIndex := 6, attributes := #[] }] 33 0 #[] #[])
  fields := #[]
  methods := #[k0m0]
  instanceTypes := #[]
  staticTypes := #[]
  resolved := Array.replicate 124 none
  statics := none }

def pool1 : Array CpInfo := pool [(2, .class_ 4), (1, u "java/lang/Object"), (0, u "<init>"), (0, u "()V"), (0, .long 63), (1, .methodref 10 11), (0, .class_ 12), (0, .nameAndType 13 14), (0, u "org/lexpack/codec/BitString"), (0, u "bit"), (0, u "([BJ)I"), (0, .class_ 16), (0, u "org/lexpack/codec/BitStringBitPinLaw"), (2, u "law"), (0, u "(JI)Z")] 5

def k1m0 : Method := { name := "<init>", desc := "()V", sig := { parameters := [], returnType := none }, accessFlags := 1, code := none }
def k1c1 : Code := { maxStack := 6, maxLocals := 7, code := code, exceptionTable := #[], attributes := #[] }
def k1m1 : Method := { name := "law", desc := "(JI)Z", sig := { parameters := [.long, .int], returnType := some .boolean }, accessFlags := 9, code := some k1c1 }
/-- org/lexpack/codec/BitStringBitPinLaw -/
def k1 : Class := { plain "org/lexpack/codec/BitStringBitPinLaw" (some 0) with
  accessFlags := 49
  interfaces := #[]
  cf := some (fileOf pool1 15 #[] #[{ accessFlags := 1, nameIndex := 5, descriptorIndex := 6, attributes := #[] }, { accessFlags := 9, nameIndex := 19, descriptorIndex := 20, attributes := #[] }] 49 2 #[] #[])
  fields := #[]
  methods := #[k1m0, k1m1]
  instanceTypes := #[]
  staticTypes := #[]
  resolved := Array.replicate 26 none
  statics := none }

def pool2 : Array CpInfo := pool [(6, .class_ 8), (1, u "java/lang/Object"), (3, .class_ 14), (1, u "org/lexpack/codec/BitString"), (0, u "bytes"), (0, u "[B"), (2, u "length"), (0, u "J"), (41, u "bit"), (0, u "([BJ)I"), (23, u "LONG"), (0, u "Ljava/lang/invoke/VarHandle;"), (9, .long 7), (17, u "MAX_READ"), (0, u "I")] 19

def k2c0 : Code := { maxStack := 7, maxLocals := 3, code := prog_21_method_13_code, exceptionTable := #[], attributes := #[] }
def k2m0 : Method := { name := "bit", desc := "([BJ)I", sig := { parameters := [(.array .byte), .long], returnType := some .int }, accessFlags := 8, code := some k2c0 }
/-- org/lexpack/codec/BitString -/
def k2 : Class := { plain "org/lexpack/codec/BitString" (some 0) with
  accessFlags := 49
  interfaces := #[]
  cf := some (fileOf pool2 12 #[] #[{ accessFlags := 8, nameIndex := 62, descriptorIndex := 63, attributes := #[] }] 49 6 #[] #[{ accessFlags := 25, nameIndex := 116, descriptorIndex := 117, attributes := #[] }, { accessFlags := 26, nameIndex := 87, descriptorIndex := 88, attributes := #[] }, { accessFlags := 18, nameIndex := 15, descriptorIndex := 16, attributes := #[] }, { accessFlags := 18, nameIndex := 19, descriptorIndex := 20, attributes := #[] }])
  fields := #[{ name := "MAX_READ", type := .int, accessFlags := 25, slot := 0, constantValue := 0 }, { name := "LONG", type := (.object "java/lang/invoke/VarHandle"), accessFlags := 26, slot := 1, constantValue := 0 }, { name := "bytes", type := (.array .byte), accessFlags := 18, slot := 0, constantValue := 0 }, { name := "length", type := .long, accessFlags := 18, slot := 1, constantValue := 0 }]
  methods := #[k2m0]
  instanceTypes := #[(.array .byte), .long]
  staticTypes := #[.int, (.object "java/lang/invoke/VarHandle")]
  resolved := Array.replicate 137 none
  statics := none }

def pool3 : Array CpInfo := pool [(1, u "java/lang/Cloneable"), (0, .class_ 1), (0, u "java/lang/Object"), (0, .class_ 3)] 3

/-- java/lang/Cloneable -/
def k3 : Class := { plain "java/lang/Cloneable" (some 0) with
  accessFlags := 1537
  interfaces := #[]
  cf := some (fileOf pool3 2 #[] #[] 1537 4 #[] #[])
  fields := #[]
  methods := #[]
  instanceTypes := #[]
  staticTypes := #[]
  resolved := Array.replicate 8 none
  statics := none }

def pool4 : Array CpInfo := pool [(1, u "java/io/Serializable"), (0, .class_ 1), (0, u "java/lang/Object"), (0, .class_ 3)] 3

/-- java/io/Serializable -/
def k4 : Class := { plain "java/io/Serializable" (some 0) with
  accessFlags := 1537
  interfaces := #[]
  cf := some (fileOf pool4 2 #[] #[] 1537 4 #[] #[])
  fields := #[]
  methods := #[]
  instanceTypes := #[]
  staticTypes := #[]
  resolved := Array.replicate 8 none
  statics := none }

/-- the primitive byte -/
def k5 : Class := { plain "byte" none with kind := .primitive 'B', accessFlags := 0x411 }
/-- [B -/
def k6 : Class := { plain "[B" (some 0) with kind := .array 5 .byte, interfaces := #[3, 4], accessFlags := 1041 }

/-- the primitive int -/
def k7 : Class := { plain "int" none with kind := .primitive 'I', accessFlags := 0x411 }
/-- [I -/
def k8 : Class := { plain "[I" (some 0) with kind := .array 7 .int, interfaces := #[3, 4], accessFlags := 1041 }

def heap : Heap := #[]
def classes : Array Class := #[k0, k1, k2, k3, k4, k5, k6, k7, k8]
def interned : List (Array UInt16 × Addr) := []
def slotsUsed : Nat := 0
def theMethod : MethodId := ⟨1, 1⟩
def args0 : Array Value := #[.long 99, .int 5]
def aboutOver (below : List Frame) : State where
  vm := { classes := classes, interned := interned.toArray }
  heap := heap
  slotsUsed := slotsUsed
  threads := #[{ frames := .invoking theMethod args0 :: below }]
def below0 : List Frame := [.native { method := ⟨0, 0⟩, args := #[] }]
def about1 : State := aboutOver below0
def p0 : Program := .bare "" "" ""
def e0 : Env := launch0.env 0 0 0
theorem w_frames : about1.frames = Frame.invoking theMethod args0 :: below0 := rfl
set_option maxRecDepth 65536 in
theorem w_args : argsFit about1.vm theMethod args0 = true := by decide +kernel
set_option maxRecDepth 65536 in
theorem w_heap : heapFits about1 = true := by decide +kernel
set_option maxRecDepth 65536 in
theorem w_runnable : about1.curStatus? = some .runnable := by decide +kernel
set_option maxRecDepth 65536 in
theorem w_alone : about1.alone = true := by decide +kernel
set_option maxRecDepth 65536 in
theorem w_named : about1.methodNamed? x = some theMethod := by decide +kernel
set_option maxRecDepth 65536 in
theorem w_hears : about1.hears theMethod below0 = true := by decide +kernel
set_option maxRecDepth 65536 in
theorem w_ripe : about1.ripe theMethod args0 below0 = true := by decide +kernel
theorem w_running : about1.status = .running := rfl
set_option maxRecDepth 65536 in
theorem w_room : about1.hasRoom e0.platform room_1 = true :=
  launch0.hasRoom_least _ room_1 (by decide +kernel) (by decide +kernel) (by decide +kernel) (by decide +kernel) (by decide +kernel) (by decide +kernel)
theorem allAtoms_all (ts : List Jvm.Cond) (a : Array Jvm.Value) (st : Jvm.State) : (allAtoms ts).before a st = ts.all (fun c => c.before a st) := by
  induction ts with
  | nil => rfl
  | cons c t ih =>
    show (Jvm.Cond.and c (allAtoms t)).before a st = _
    rw [Jvm.Cond.before_and, ih, List.all_cons]
def words1 : List Jvm.Cond := Jvm.Cond.code x code maxLocals ret :: tables_1
/-- a 'code' word, met by the world's own term for the bytes: nothing is compared byte by byte -/
theorem code_word {y : MethodName} {bytes : ByteArray} {mx : Nat} {rt : Option FieldType} {a : Array Value} {s : State} {m : MethodId} {meth : Method} {c : Code} (h1 : s.methodNamed? y = some m) (h2 : s.vm.method? m = some meth) (h3 : meth.code = some c) (h4 : c.code = bytes)
    (h5 : (c.maxLocals == mx && c.exceptionTable.isEmpty && decide (c.maxStack ≤ mostOperands) && decide (meth.sig.returnType = rt) && !meth.locks && decide (parseMethodDescriptor y.desc = some meth.sig)) = true) : (Jvm.Cond.code y bytes mx rt).before a s = true := by
  simp only [Bool.and_eq_true, beq_iff_eq, Bool.not_eq_true', decide_eq_true_eq] at h5
  obtain ⟨⟨⟨⟨⟨g1, g2⟩, g3⟩, g4⟩, g5⟩, g6⟩ := h5
  simp [Cond.before, Cond.holds, Cond.value, h1, h2, h3, h4, g1, g2, g3, g4, g5, g6]
def isCode : Jvm.Cond → Bool
  | .code _ _ _ _ => true
  | _ => false
theorem all_split {L : List Jvm.Cond} {P : Jvm.Cond → Bool} (h1 : L.all (fun c => isCode c || P c) = true) (h2 : ∀ c ∈ L.filter isCode, P c = true) : L.all P = true := by
  refine List.all_eq_true.mpr fun c hc => ?_
  have h := List.all_eq_true.mp h1 c hc
  rcases Bool.eq_false_or_eq_true (isCode c) with hi | hi
  · exact h2 c (List.mem_filter.mpr ⟨hc, hi⟩)
  · simpa [hi] using h
set_option maxRecDepth 65536 in
theorem w_c0 : (Jvm.Cond.code x code maxLocals ret).before args0 about1 = true := code_word (m := ⟨1, 1⟩) (meth := k1m1) (c := k1c1) (by decide +kernel) rfl rfl rfl (by decide +kernel)
set_option maxRecDepth 65536 in
theorem w_c1 : (Jvm.Cond.code ({ cls := "org/lexpack/codec/BitString", name := "bit", desc := "([BJ)I" } : Jvm.MethodName) prog_21_method_13_code (3 : Nat) (Option.some Jvm.ClassFile.FieldType.int)).before args0 about1 = true := code_word (m := ⟨2, 0⟩) (meth := k2m0) (c := k2c0) (by decide +kernel) rfl rfl rfl (by decide +kernel)
def codes1 : List Jvm.Cond := [Jvm.Cond.code x code maxLocals ret, Jvm.Cond.code ({ cls := "org/lexpack/codec/BitString", name := "bit", desc := "([BJ)I" } : Jvm.MethodName) prog_21_method_13_code (3 : Nat) (Option.some Jvm.ClassFile.FieldType.int)]
set_option maxRecDepth 65536 in
theorem codes_eq : words1.filter isCode = codes1 := rfl
theorem w_codes : ∀ c ∈ words1.filter isCode, c.before args0 about1 = true := by
  rw [codes_eq]
  intro c hc
  simp only [codes1, List.mem_cons, List.not_mem_nil, or_false] at hc
  rcases hc with rfl | rfl
  · exact w_c0
  · exact w_c1
set_option maxRecDepth 65536 in
theorem w_t1 : words1.all (fun c => isCode c || c.before args0 about1) = true := by decide +kernel
theorem w_tables : (allAtoms (Jvm.Cond.code x code maxLocals ret :: tables_1)).before args0 about1 = true := by
  rw [allAtoms_all]
  show words1.all (fun c => c.before args0 about1) = true
  refine all_split ?_ w_codes
  rw [w_t1]
set_option maxRecDepth 65536 in
theorem w_case : (Jvm.Cond.and given_1 narrow_1).before args0 about1 = true := by decide +kernel
theorem w_applies : (headSpec (Jvm.Cond.code x code maxLocals ret :: tables_1) room_1).applies x e0.platform about1 = true :=
  (Spec.applies_iff w_frames).mpr ⟨w_running, w_runnable, w_alone, w_named, w_hears, w_ripe, w_room, w_tables⟩
theorem atStart : AtStart classFile x code maxLocals ret World_1 tables_1 room_1 Calls_1 rest_1 Pre_1 launch0 p0 e0 about1 theMethod args0 below0 :=
  ⟨lists_1, trivial, launch0.admits_env _ _ _, launch0.least_env, fairChoices_fair.cas, fairChoices_fair.clock, w_frames, w_args, w_heap, w_applies, trivial, trivial, w_case⟩
end start1
theorem witness_1 : WitnessClaimed_1 := ⟨start1.p0, start1.e0, start1.about1, start1.theMethod, start1.args0, start1.below0, start1.atStart⟩
end Jvm.Pilot.@@N@@
