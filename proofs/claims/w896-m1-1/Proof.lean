import JvmDerived
import JvmDerived.Pilot.@@N@@Statement
import JvmDerived.Pilot.@@N@@Code
set_option linter.unusedVariables false
set_option linter.unusedSimpArgs false
namespace Jvm.RoadKit
open Sem ClassFile Op Lib Jvm.Stand Jvm.Free Jvm.LawKit
section New
variable {p : Program} {l : Launch} {e : Env} {R : Room} {s : State} {m : MethodId} {args : Array Value} {below : List Frame} {meth : Method} {c : Code} {T : State} {locs : List Loc} {cells slots : Nat}
theorem retI (X : Stand p l e R s m args below meth c T locs cells slots) (hx : p.tables.exec = Jvm.exec) {pc : Nat} {Ls : Array Slot} {z : Int32} {rest : List Value} (hret : meth.sig.returnType = some .int) (hd : decode c.code pc = .ok (.ireturn, 1)) {fs : List Frame}
    (hl : ∀ (f : JFrame) (acts : List Action), f.method = m → f.locked = none → f.entered = [] → (doReturn e (T.setTop f) acts (some (.int z))).1 = T.setFrames fs) : Steps p.tables e below (T.setTop (mkF m pc Ls (.int z :: rest))) (T.setFrames fs) := by
  have hm' : T.vm.method? m = some meth := X.method'
  have hn : narrow .int (.int z) = .int z := rfl
  show Steps p.tables e below (T.setTop { method := m, pc := pc, locals := Ls, stack := _ :: rest, locked := none }) _
  jvm_step X.here [X.here.top, hx, hd, hm', hret, hn]
  first | (intro acts; rw [hl _ acts rfl rfl rfl]) | rw [hl _ _ rfl rfl rfl]
  exact Steps.refl _
theorem own_nar01 {z : Int32} (h : z = 0 ∨ z = 1) : narrow .boolean (.int z) = .int z := by rcases h with rfl | rfl <;> rfl
theorem own_fit01 {z : Int32} (h : z = 0 ∨ z = 1) : fits .boolean (.int z) = true := by rcases h with rfl | rfl <;> decide
theorem own_retZ (X : Stand p l e R s m args below meth c T locs cells slots) (hx : p.tables.exec = Jvm.exec) {pc : Nat} {Ls : Array Slot} {z : Int32} {rest : List Value} (hret : meth.sig.returnType = some .boolean) (hz : z = 0 ∨ z = 1) (hd : decode c.code pc = .ok (.ireturn, 1)) {fs : List Frame}
    (hl : ∀ (f : JFrame) (acts : List Action), f.method = m → f.locked = none → f.entered = [] → (doReturn e (T.setTop f) acts (some (.int z))).1 = T.setFrames fs) : Steps p.tables e below (T.setTop (mkF m pc Ls (.int z :: rest))) (T.setFrames fs) := by
  have hm' : T.vm.method? m = some meth := X.method'
  have hn : narrow .boolean (.int z) = .int z := own_nar01 hz
  show Steps p.tables e below (T.setTop { method := m, pc := pc, locals := Ls, stack := _ :: rest, locked := none }) _
  jvm_step X.here [X.here.top, hx, hd, hm', hret, hn]
  first | (intro acts; rw [hl _ acts rfl rfl rfl]) | rw [hl _ _ rfl rfl rfl]
  exact Steps.refl _
end New
section Own
variable {Z : State} {h h' : Heap} {C n d : String} {w : Value} {a : Addr}
theorem own_sta_keep (F : Sta Z h C n d w) {ws : List Addr} (K : Keep h h' ws) (q : ∀ (st : Addr) (cell : Cell), h[st]? = some cell → cell.vm.isStatics = true → st ∉ ws) : Sta Z h' C n d w := by
  obtain ⟨cf, i, k, f, st, cell, h1, h2, h3, h4, h5, h6, h7⟩ := F
  exact ⟨cf, i, k, f, st, cell, h1, h2, h3, h4, K.2.1 st cell h5 (q st cell h5 h6), h6, h7⟩
theorem own_eqf {args : Array Value} {s : State} {t : Term} {C n d : String} {k : Int32} {x : Addr} (h : (Jvm.Cond.eq (.field t C n d) (.int k)).value args s none s [] = some true) (ht : t.eval args s none [] s = some (.ref x)) : s.fieldOf? x C n d = some (.int k) := by
  simp only [Cond.value, Term.eval, ht, Option.bind_eq_bind, Option.bind_some] at h
  cases hv : s.fieldOf? x C n d with
  | none => simp [hv] at h
  | some v => cases v <;> simp_all
theorem own_eqL {args : Array Value} {s : State} {t : Term} {k : Int64} (h : (Jvm.Cond.eq t (.long k)).value args s none s [] = some true) : t.eval args s none [] s = some (.long k) := by
  simp only [Cond.value, Term.eval] at h
  cases hv : t.eval args s none [] s with
  | none => simp [hv] at h
  | some v => cases v <;> simp_all
theorem own_eqI {args : Array Value} {s : State} {t : Term} {k : Int32} (h : (Jvm.Cond.eq t (.int k)).value args s none s [] = some true) : t.eval args s none [] s = some (.int k) := by
  simp only [Cond.value, Term.eval] at h
  cases hv : t.eval args s none [] s with
  | none => simp [hv] at h
  | some v => cases v <;> simp_all
theorem own_sta_keep0 (F : Sta Z h C n d w) (K : Keep h h' []) : Sta Z h' C n d w := own_sta_keep F K fun _ _ _ _ q => nomatch q
theorem own_sta_keep1 (F : Sta Z h C n d w) (K : Keep h h' [a]) {C' : String} (E : Exa Z h a C') : Sta Z h' C n d w := own_sta_keep F K fun st cell h1 h2 q => by
  cases List.mem_singleton.mp q
  obtain ⟨c2, _, g1, -, -, g4, -⟩ := E
  cases h1.symm.trans g1
  rw [h2] at g4; cases g4
end Own
end Jvm.RoadKit
namespace Jvm.Pilot.@@N@@
open Jvm Jvm.ClassFile Sem Op Lib Jvm.Free Jvm.Stand Jvm.LawKit Jvm.RoadKit Bundle Jvm.Pilot.@@N@@.Jvm.D
def own_B (n : Int32) (b : Nat) : Prop := ¬ n < 0 ∧ n.toNatClampNeg ≤ b
def own_la (s : Int32) : Int32 := (s &&& 7) % 5
def own_lb (s : Int32) : Int32 := ((s.toUInt32 >>> ((3 : Int32) &&& 31).toUInt32).toInt32 &&& 7) % 5
def own_by0 (x : Int32) : Int32 := x.toInt8.toInt32
def own_by (x k : Int32) : Int32 := ((x.toUInt32 >>> (k &&& 31).toUInt32).toInt32).toInt8.toInt32
def own_want (i la a b : Int32) : Int32 := if i < la then own_by a (8 * i) else own_by b (8 * (i - la))
def own_minI (x y : Int32) : Int32 := if y < x then y else x
def own_bs (x : Int32) : List Value := [.int (own_by0 x), .int (own_by x 8), .int (own_by x 16), .int (own_by x 24)]
def own_cpy (n : Int32) (L : List Value) : List Value := (List.range 8).map fun i => if i < n.toNatClampNeg then L.getD i (.int 0) else .int 0
def own_cat (n : Int32) (L M : List Value) : List Value := (List.range 8).map fun i => if i < n.toNatClampNeg then L.getD i (.int 0) else M.getD (i - n.toNatClampNeg) (.int 0)
theorem own_rm (f : Nat → Value) (i : Nat) (h : i < 8) (d : Value) : ((List.range 8).map f).getD i d = f i := by
  rw [List.getD_eq_getElem?_getD, List.getElem?_map, List.getElem?_range h]; rfl
theorem own_conv {Z : State} {h : Heap} {a : Addr} {k : ClassId} {ty : FieldType} {n n' : Int32} {vs vs' : List Value} {d : Value} (F : Arv Z h a k ty n vs d) (hn : n' = n) (q : ∀ i, i < n.toNatClampNeg → vs'.getD i d = vs.getD i d) : Arv Z h a k ty n' vs' d := by
  subst hn
  obtain ⟨c, A, r1, r2, r3, H, G⟩ := F
  exact ⟨c, A, r1, r2, r3, fun i hi => by rw [q i (r2 ▸ hi)]; exact H i hi, fun i hi => by rw [q i (r2 ▸ hi)]; exact G i hi⟩
theorem own_idem (x : Int32) : x.toInt8.toInt32.toInt8.toInt32 = x.toInt8.toInt32 := by
  rw [Int8.toInt8_toInt32]
theorem own_nat (n : Int32) (h : ¬ n < 0) : n.toInt = (n.toNatClampNeg : Int) := nat_of h
theorem own_lt_of (n k : Int32) (h : ¬ n < 0) (hk : ¬ k < 0) : n < k ↔ n.toNatClampNeg < k.toNatClampNeg := by
  rw [Int32.lt_iff_toInt_lt, own_nat n h, own_nat k hk]; omega
theorem own_getD_cat (vd us : List Value) (dp nn i : Nat) (d : Value) (hu : us.length = nn) (hl : dp + nn ≤ vd.length) : (vd.take dp ++ us ++ vd.drop (dp + nn)).getD i d = if i < dp then vd.getD i d else if i < dp + nn then us.getD (i - dp) d else vd.getD i d := by
  have h1 : (vd.take dp).length = dp := by rw [List.length_take]; omega
  simp only [List.getD_eq_getElem?_getD]
  split
  · rename_i h
    rw [List.append_assoc, List.getElem?_append_left (by omega), List.getElem?_take_of_lt h]
  · rename_i h
    split
    · rename_i h2
      rw [List.getElem?_append_left (by rw [List.length_append]; omega), List.getElem?_append_right (by omega), h1]
    · rename_i h2
      rw [List.getElem?_append_right (by rw [List.length_append]; omega), List.length_append, h1, hu, List.getElem?_drop]
      congr 2; omega
theorem own_us (L : List Value) (n : Nat) (d : Value) (i : Nat) (h : i < n) : ((List.range n).map fun i => L.getD ((0 : Int32).toNatClampNeg + i) d).getD i d = L.getD i d := by
  have z : (0 : Int32).toNatClampNeg = 0 := by decide
  rw [List.getD_eq_getElem?_getD, List.getElem?_map, List.getElem?_range h, z]; simp
theorem own_sum {n m : Int32} (h1 : own_B n 4) (h2 : own_B m 4) : own_B (n + m) 8 ∧ (n + m).toNatClampNeg = n.toNatClampNeg + m.toNatClampNeg := by
  have a := c_iadd n m
  have b1 := own_nat n h1.1
  have b2 := own_nat m h2.1
  have r := rng32 (n + m)
  have hh1 := h1.2
  have hh2 := h2.2
  have z : (0 : Int32).toInt = 0 := by decide
  have e : ¬ (n + m) < 0 := by rw [Int32.lt_iff_toInt_lt]; omega
  have b3 := own_nat (n + m) e
  exact ⟨⟨e, by omega⟩, by omega⟩
theorem own_mod5 (x : Int32) : own_B ((x &&& 7) % 5) 4 := by
  have h1 : (x &&& 7).toInt = x.toInt % (2 ^ 3 : Nat) := c_mask x 7 3 (by decide) (by decide)
  have h2 := (c_irem (x &&& 7) 5 5 (by decide)).1 (by omega)
  have z : (0 : Int32).toInt = 0 := by decide
  have e : ¬ ((x &&& 7) % 5) < 0 := by rw [Int32.lt_iff_toInt_lt]; omega
  have b := own_nat _ e
  exact ⟨e, by omega⟩
theorem own_la_B (s : Int32) : own_B (own_la s) 4 := own_mod5 s
theorem own_lb_B (s : Int32) : own_B (own_lb s) 4 := own_mod5 _
theorem own_min_eq {n m : Int32} (h1 : own_B n 4) (h2 : own_B m 8) (h : n.toNatClampNeg ≤ m.toNatClampNeg) : own_minI n m = n := by
  unfold own_minI
  rw [if_neg]
  rw [own_lt_of _ _ h2.1 h1.1]; omega
theorem own_cat_at {la lb : Int32} (h1 : own_B la 4) (h2 : own_B lb 4) (a b i : Int32) (hi : ¬ i < 0) (hlt : i < la + lb) (h8 : i.toNatClampNeg < 8) (hk : i.toInt = 0 ∨ i.toInt = 1 ∨ i.toInt = 2 ∨ i.toInt = 3 ∨ i.toInt = 4 ∨ i.toInt = 5 ∨ i.toInt = 6 ∨ i.toInt = 7) :
    (own_cat la (own_bs a) (own_bs b)).getD i.toNatClampNeg (.int 0) = .int (own_want i la a b) := by
  obtain ⟨hs, es⟩ := own_sum h1 h2
  rw [own_lt_of _ _ hi hs.1, es] at hlt
  have sh0 : ∀ x : Int32, own_by x 0 = own_by0 x := fun x => by
    unfold own_by own_by0
    have e : (x.toUInt32 >>> ((0 : Int32) &&& 31).toUInt32).toInt32 = x := by
      apply Int32.toBitVec_inj.mp
      simp
    rw [e]
  have g : ∀ (x j : Int32) (n : Nat), n < 4 → j.toInt = n → (own_bs x).getD n (.int 0) = .int (own_by x (8 * j)) := fun x j n hn hj => by
    have c := c_imul 8 j
    have k8 : (8 : Int32).toInt = 8 := by decide
    have r := rng32 (8 * j)
    rw [k8, hj] at c
    have e : 8 * j = Int32.ofInt (8 * n) := Int32.toInt_inj.mp (by rw [Int32.toInt_ofInt_of_le (by omega) (by omega)]; omega)
    have hc : n = 0 ∨ n = 1 ∨ n = 2 ∨ n = 3 := by omega
    rw [e]
    rcases hc with rfl | rfl | rfl | rfl
    · show Value.int (own_by0 x) = .int (own_by x 0); rw [sh0]
    · rfl
    · rfl
    · rfl
  have hin := own_nat i hi
  unfold own_cat own_want
  rw [own_rm _ _ h8]
  have hlt1 := own_lt_of i la hi h1.1
  by_cases hc : i < la
  · rw [if_pos (hlt1.mp hc), if_pos hc]
    have := h1.2
    have hq := hlt1.mp hc
    exact g a i _ (by omega) hin
  · have hq : ¬ i.toNatClampNeg < la.toNatClampNeg := fun q => hc (hlt1.mpr q)
    rw [if_neg hq, if_neg hc]
    have s := c_isub i la
    have r := rng32 (i - la)
    have hla := own_nat la h1.1
    have := h2.2
    exact g b (i - la) _ (by omega) (by omega)
theorem own_mk0 (x n : Int32) (hn : ¬ n < 0) (c0 : ¬ ((0 : Int32) < n)) (c1 : ¬ ((1 : Int32) < n)) (c2 : ¬ ((2 : Int32) < n)) (c3 : ¬ ((3 : Int32) < n)) : ∀ i, i < n.toNatClampNeg → (own_bs x).getD i (.int 0) = ([(.int (0 : Int32)), (.int (0 : Int32)), (.int (0 : Int32)), (.int (0 : Int32))] : List Value).getD i (.int 0) := by
  intro i hi
  have e := own_nat n hn
  simp only [Int32.lt_iff_toInt_lt, e] at c0 c1 c2 c3
  have k0 : (0 : Int32).toInt = 0 := by decide
  have k1 : (1 : Int32).toInt = 1 := by decide
  have k2 : (2 : Int32).toInt = 2 := by decide
  have k3 : (3 : Int32).toInt = 3 := by decide
  have id0 : (own_by0 x).toInt8.toInt32 = own_by0 x := own_idem x
  have idk : ∀ k : Int32, (own_by x k).toInt8.toInt32 = own_by x k := fun k => own_idem _
  match i with
  | 0 => exfalso; omega
  | 1 => exfalso; omega
  | 2 => exfalso; omega
  | 3 => exfalso; omega
  | j + 4 => exact (rfl : (Value.int 0) = .int 0)
theorem own_mk1 (x n : Int32) (hn : ¬ n < 0) (c0 : (0 : Int32) < n) (c1 : ¬ ((1 : Int32) < n)) (c2 : ¬ ((2 : Int32) < n)) (c3 : ¬ ((3 : Int32) < n)) : ∀ i, i < n.toNatClampNeg → (own_bs x).getD i (.int 0) = ([(.int ((own_by0 x).toInt8.toInt32)), (.int (0 : Int32)), (.int (0 : Int32)), (.int (0 : Int32))] : List Value).getD i (.int 0) := by
  intro i hi
  have e := own_nat n hn
  simp only [Int32.lt_iff_toInt_lt, e] at c0 c1 c2 c3
  have k0 : (0 : Int32).toInt = 0 := by decide
  have k1 : (1 : Int32).toInt = 1 := by decide
  have k2 : (2 : Int32).toInt = 2 := by decide
  have k3 : (3 : Int32).toInt = 3 := by decide
  have id0 : (own_by0 x).toInt8.toInt32 = own_by0 x := own_idem x
  have idk : ∀ k : Int32, (own_by x k).toInt8.toInt32 = own_by x k := fun k => own_idem _
  match i with
  | 0 => exact congrArg Value.int (id0).symm
  | 1 => exfalso; omega
  | 2 => exfalso; omega
  | 3 => exfalso; omega
  | j + 4 => exact (rfl : (Value.int 0) = .int 0)
theorem own_mk2 (x n : Int32) (hn : ¬ n < 0) (c0 : (0 : Int32) < n) (c1 : (1 : Int32) < n) (c2 : ¬ ((2 : Int32) < n)) (c3 : ¬ ((3 : Int32) < n)) : ∀ i, i < n.toNatClampNeg → (own_bs x).getD i (.int 0) = ([(.int ((own_by0 x).toInt8.toInt32)), (.int ((own_by x (8 : Int32)).toInt8.toInt32)), (.int (0 : Int32)), (.int (0 : Int32))] : List Value).getD i (.int 0) := by
  intro i hi
  have e := own_nat n hn
  simp only [Int32.lt_iff_toInt_lt, e] at c0 c1 c2 c3
  have k0 : (0 : Int32).toInt = 0 := by decide
  have k1 : (1 : Int32).toInt = 1 := by decide
  have k2 : (2 : Int32).toInt = 2 := by decide
  have k3 : (3 : Int32).toInt = 3 := by decide
  have id0 : (own_by0 x).toInt8.toInt32 = own_by0 x := own_idem x
  have idk : ∀ k : Int32, (own_by x k).toInt8.toInt32 = own_by x k := fun k => own_idem _
  match i with
  | 0 => exact congrArg Value.int (id0).symm
  | 1 => exact congrArg Value.int (idk 8).symm
  | 2 => exfalso; omega
  | 3 => exfalso; omega
  | j + 4 => exact (rfl : (Value.int 0) = .int 0)
theorem own_mk3 (x n : Int32) (hn : ¬ n < 0) (c0 : (0 : Int32) < n) (c1 : (1 : Int32) < n) (c2 : (2 : Int32) < n) (c3 : ¬ ((3 : Int32) < n)) : ∀ i, i < n.toNatClampNeg → (own_bs x).getD i (.int 0) = ([(.int ((own_by0 x).toInt8.toInt32)), (.int ((own_by x (8 : Int32)).toInt8.toInt32)), (.int ((own_by x (16 : Int32)).toInt8.toInt32)), (.int (0 : Int32))] : List Value).getD i (.int 0) := by
  intro i hi
  have e := own_nat n hn
  simp only [Int32.lt_iff_toInt_lt, e] at c0 c1 c2 c3
  have k0 : (0 : Int32).toInt = 0 := by decide
  have k1 : (1 : Int32).toInt = 1 := by decide
  have k2 : (2 : Int32).toInt = 2 := by decide
  have k3 : (3 : Int32).toInt = 3 := by decide
  have id0 : (own_by0 x).toInt8.toInt32 = own_by0 x := own_idem x
  have idk : ∀ k : Int32, (own_by x k).toInt8.toInt32 = own_by x k := fun k => own_idem _
  match i with
  | 0 => exact congrArg Value.int (id0).symm
  | 1 => exact congrArg Value.int (idk 8).symm
  | 2 => exact congrArg Value.int (idk 16).symm
  | 3 => exfalso; omega
  | j + 4 => exact (rfl : (Value.int 0) = .int 0)
theorem own_mk4 (x n : Int32) (hn : ¬ n < 0) (c0 : (0 : Int32) < n) (c1 : (1 : Int32) < n) (c2 : (2 : Int32) < n) (c3 : (3 : Int32) < n) : ∀ i, i < n.toNatClampNeg → (own_bs x).getD i (.int 0) = ([(.int ((own_by0 x).toInt8.toInt32)), (.int ((own_by x (8 : Int32)).toInt8.toInt32)), (.int ((own_by x (16 : Int32)).toInt8.toInt32)), (.int ((own_by x (24 : Int32)).toInt8.toInt32))] : List Value).getD i (.int 0) := by
  intro i hi
  have e := own_nat n hn
  simp only [Int32.lt_iff_toInt_lt, e] at c0 c1 c2 c3
  have k0 : (0 : Int32).toInt = 0 := by decide
  have k1 : (1 : Int32).toInt = 1 := by decide
  have k2 : (2 : Int32).toInt = 2 := by decide
  have k3 : (3 : Int32).toInt = 3 := by decide
  have id0 : (own_by0 x).toInt8.toInt32 = own_by0 x := own_idem x
  have idk : ∀ k : Int32, (own_by x k).toInt8.toInt32 = own_by x k := fun k => own_idem _
  match i with
  | 0 => exact congrArg Value.int (id0).symm
  | 1 => exact congrArg Value.int (idk 8).symm
  | 2 => exact congrArg Value.int (idk 16).symm
  | 3 => exact congrArg Value.int (idk 24).symm
  | j + 4 => exact (rfl : (Value.int 0) = .int 0)
theorem own_cpA (n : Int32) (L : List Value) (h : own_B n 4) : ∀ i, i < n.toNatClampNeg → (own_cpy n L).getD i (.int 0) = L.getD i (.int 0) := by
  intro i hi
  have := h.2
  unfold own_cpy
  rw [own_rm _ _ (by omega), if_pos hi]
theorem own_cpB (n p : Int32) (L : List Value) (h1 : own_B n 4) (h2 : own_B p 8) (hle : n.toNatClampNeg ≤ p.toNatClampNeg) : ∀ i, i < p.toNatClampNeg → (own_cpy n L).getD i (.int 0) = (([(.int (0 : Int32)), (.int (0 : Int32)), (.int (0 : Int32)), (.int (0 : Int32)), (.int (0 : Int32)), (.int (0 : Int32)), (.int (0 : Int32)), (.int (0 : Int32))] : List Value).take ((0 : Int32)).toNatClampNeg ++ ((List.range (own_minI n p).toNatClampNeg).map fun i => (L).getD (((0 : Int32)).toNatClampNeg + i) (.int (0 : Int32))) ++ ([(.int (0 : Int32)), (.int (0 : Int32)), (.int (0 : Int32)), (.int (0 : Int32)), (.int (0 : Int32)), (.int (0 : Int32)), (.int (0 : Int32)), (.int (0 : Int32))] : List Value).drop (((0 : Int32)).toNatClampNeg + (own_minI n p).toNatClampNeg)).getD i (.int 0) := by
  intro i hi
  have q2 := h2.2
  have q1 := h1.2
  rw [own_min_eq h1 h2 hle]
  have z : (0 : Int32).toNatClampNeg = 0 := by decide
  rw [own_getD_cat _ _ _ _ _ _ (by simp) (by simp [z]; omega)]
  unfold own_cpy
  rw [own_rm _ _ (by omega), z]
  by_cases hc : i < n.toNatClampNeg
  · rw [if_pos hc, if_neg (by omega), if_pos (by omega)]
    exact (own_us L _ _ _ (by simpa using hc)).symm
  · rw [if_neg hc, if_neg (by omega), if_neg (by omega)]
    match i with
    | 0 | 1 | 2 | 3 | 4 | 5 | 6 | 7 => rfl
    | j + 8 => omega
theorem own_cpC (n m : Int32) (L M : List Value) (h1 : own_B n 4) (h2 : own_B m 4) : ∀ i, i < (n + m).toNatClampNeg → (own_cat n L M).getD i (.int 0) = ((own_cpy n L).take (n).toNatClampNeg ++ ((List.range (m).toNatClampNeg).map fun i => (M).getD (((0 : Int32)).toNatClampNeg + i) (.int (0 : Int32))) ++ (own_cpy n L).drop ((n).toNatClampNeg + (m).toNatClampNeg)).getD i (.int 0) := by
  intro i hi
  obtain ⟨hs, es⟩ := own_sum h1 h2
  have q1 := h1.2
  have q2 := h2.2
  rw [es] at hi
  rw [own_getD_cat _ _ _ _ _ _ (by simp) (by simp [own_cpy]; omega)]
  unfold own_cat
  rw [own_rm _ _ (by omega)]
  by_cases hc : i < n.toNatClampNeg
  · rw [if_pos hc, if_pos hc, own_cpA n L h1 i hc]
  · rw [if_neg hc, if_neg hc, if_pos hi]
    exact (own_us M _ _ _ (by omega)).symm
theorem own_ge (k k1 n : Int32) (hk : k1.toInt = k.toInt + 1) (h : ¬ n < k1) : k < n := by
  rw [Int32.lt_iff_toInt_lt] at h ⊢
  omega
theorem d_method_3_code_0 : decode method_3_code 0 = .ok (.iload_n 1, 1) := by decide +kernel
theorem d_method_3_code_1 : decode method_3_code 1 = .ok (.newarray .byte, 2) := by decide +kernel
theorem d_method_3_code_3 : decode method_3_code 3 = .ok (.astore_n 2, 1) := by decide +kernel
theorem d_method_3_code_4 : decode method_3_code 4 = .ok (.iload_n 1, 1) := by decide +kernel
theorem d_method_3_code_5 : decode method_3_code 5 = .ok (.ifCond .le 8, 3) := by decide +kernel
theorem d_method_3_code_8 : decode method_3_code 8 = .ok (.aload_n 2, 1) := by decide +kernel
theorem d_method_3_code_9 : decode method_3_code 9 = .ok (.iconst 0, 1) := by decide +kernel
theorem d_method_3_code_10 : decode method_3_code 10 = .ok (.iload_n 0, 1) := by decide +kernel
theorem d_method_3_code_11 : decode method_3_code 11 = .ok (.i2b, 1) := by decide +kernel
theorem d_method_3_code_12 : decode method_3_code 12 = .ok (.bastore, 1) := by decide +kernel
theorem d_method_3_code_13 : decode method_3_code 13 = .ok (.iload_n 1, 1) := by decide +kernel
theorem d_method_3_code_14 : decode method_3_code 14 = .ok (.iconst 1, 1) := by decide +kernel
theorem d_method_3_code_15 : decode method_3_code 15 = .ok (.if_icmp .le 11, 3) := by decide +kernel
theorem d_method_3_code_18 : decode method_3_code 18 = .ok (.aload_n 2, 1) := by decide +kernel
theorem d_method_3_code_19 : decode method_3_code 19 = .ok (.iconst 1, 1) := by decide +kernel
theorem d_method_3_code_20 : decode method_3_code 20 = .ok (.iload_n 0, 1) := by decide +kernel
theorem d_method_3_code_21 : decode method_3_code 21 = .ok (.bipush 8, 2) := by decide +kernel
theorem d_method_3_code_23 : decode method_3_code 23 = .ok (.iushr, 1) := by decide +kernel
theorem d_method_3_code_24 : decode method_3_code 24 = .ok (.i2b, 1) := by decide +kernel
theorem d_method_3_code_25 : decode method_3_code 25 = .ok (.bastore, 1) := by decide +kernel
theorem d_method_3_code_26 : decode method_3_code 26 = .ok (.iload_n 1, 1) := by decide +kernel
theorem d_method_3_code_27 : decode method_3_code 27 = .ok (.iconst 2, 1) := by decide +kernel
theorem d_method_3_code_28 : decode method_3_code 28 = .ok (.if_icmp .le 11, 3) := by decide +kernel
theorem d_method_3_code_31 : decode method_3_code 31 = .ok (.aload_n 2, 1) := by decide +kernel
theorem d_method_3_code_32 : decode method_3_code 32 = .ok (.iconst 2, 1) := by decide +kernel
theorem d_method_3_code_33 : decode method_3_code 33 = .ok (.iload_n 0, 1) := by decide +kernel
theorem d_method_3_code_34 : decode method_3_code 34 = .ok (.bipush 16, 2) := by decide +kernel
theorem d_method_3_code_36 : decode method_3_code 36 = .ok (.iushr, 1) := by decide +kernel
theorem d_method_3_code_37 : decode method_3_code 37 = .ok (.i2b, 1) := by decide +kernel
theorem d_method_3_code_38 : decode method_3_code 38 = .ok (.bastore, 1) := by decide +kernel
theorem d_method_3_code_39 : decode method_3_code 39 = .ok (.iload_n 1, 1) := by decide +kernel
theorem d_method_3_code_40 : decode method_3_code 40 = .ok (.iconst 3, 1) := by decide +kernel
theorem d_method_3_code_41 : decode method_3_code 41 = .ok (.if_icmp .le 11, 3) := by decide +kernel
theorem d_method_3_code_44 : decode method_3_code 44 = .ok (.aload_n 2, 1) := by decide +kernel
theorem d_method_3_code_45 : decode method_3_code 45 = .ok (.iconst 3, 1) := by decide +kernel
theorem d_method_3_code_46 : decode method_3_code 46 = .ok (.iload_n 0, 1) := by decide +kernel
theorem d_method_3_code_47 : decode method_3_code 47 = .ok (.bipush 24, 2) := by decide +kernel
theorem d_method_3_code_49 : decode method_3_code 49 = .ok (.iushr, 1) := by decide +kernel
theorem d_method_3_code_50 : decode method_3_code 50 = .ok (.i2b, 1) := by decide +kernel
theorem d_method_3_code_51 : decode method_3_code 51 = .ok (.bastore, 1) := by decide +kernel
theorem d_method_3_code_52 : decode method_3_code 52 = .ok (.aload_n 2, 1) := by decide +kernel
theorem d_method_3_code_53 : decode method_3_code 53 = .ok (.areturn, 1) := by decide +kernel
def Q_rmMk (Z : State) (p1 : Int32) (p2 : Int32) (h0 : Heap) (n0 : Nat) (v : Option Value) (h : Heap) (L : List Loc) : Prop := ∃ (b : Addr) (k : ClassId), v = some (.ref b) ∧ Fr n0 L ∧ Keep h0 h [] ∧ n0 ≤ b ∧ h0.size ≤ b ∧ Arv Z h b k .byte p2 (own_bs p1) (.int (0 : Int32)) ∧ Exa Z h b "[B"
theorem pn_0 : plainName "com/example/insistent_hook/insistenthook/store/KeysConcatPinLaw" = true := by first | (simp [plainName, overriddenIn]; done) | decide +kernel
theorem ef_0 (m : MethodId) (x0 : Int32) (x1 : Int32) : entryFrame m #[(.int x0), (.int x1)] 3 = mkF m 0 #[.val (.int x0), .val (.int x1), .unset] [] := by first | (simp [entryFrame, mkF, argsToLocals, Value.category]; done) | rfl
set_option maxRecDepth 65536 in
set_option maxHeartbeats 40000000 in
theorem rmMk_tttt (l : Launch) (Z : State) (a0 : Array Value) (hw : ∀ d ∈ tables_1, d.before a0 Z = true) (ws : List Jvm.Cond) (p1 : Int32) (p2 : Int32) (h0 : Heap) (n0 : Nat) (Z0 : n0 ≤ h0.size) (hn : own_B p2 4) (hc5 : (0 : Int32) < p2) (hc15 : (1 : Int32) < p2) (hc28 : (2 : Int32) < p2) (hc41 : (3 : Int32) < p2) :
    MetFree l (⟨"com/example/insistent_hook/insistenthook/store/KeysConcatPinLaw", "make", "(II)[B"⟩ : MethodName) (head1 (Jvm.Cond.code (⟨"com/example/insistent_hook/insistenthook/store/KeysConcatPinLaw", "make", "(II)[B"⟩ : MethodName) method_3_code 3 (some (.array .byte)) :: ws) ({ frames := 0, cells := 1, slots := 4, locals := 0 } : Room)) (fun a U => a = #[(.int p1), (.int p2)] ∧ Z.Warmed39 U.vm ∧ U.heap = h0) (fun _ _ _ _ _ => True) (fun _ U o U' => ∃ v L, o = .returned v ∧ Q_rmMk Z p1 p2 h0 n0 v U'.heap L ∧ FrameEnd U o U' L ({ frames := 0, cells := 1, slots := 4, locals := 0 } : Room).cells ({ frames := 0, cells := 1, slots := 4, locals := 0 } : Room).slots) := by
  refine MetFree.of_bodySF (plainFor_of_name pn_0) hisR ?_
  intro p e s m args below meth c s₁ Bd hml0 hP hK
  obtain ⟨rfl, hZ, hh⟩ := hP
  have hx := Bd.exec
  have hby := Bd.bytes
  have hml : c.maxLocals = 3 := hml0
  have hown : s.vm.findClass "com/example/insistent_hook/insistenthook/store/KeysConcatPinLaw" = some m.cls := findClass_of_methodNamed Bd.named
  have hnm := (name_of_methodNamed Bd.named Bd.method).1
  have X0 : Stand p l e ({ frames := 0, cells := 1, slots := 4, locals := 0 } : Room) s m #[(.int p1), (.int p2)] below meth c s₁ [] 0 0 := Stand.of_body Bd
  have e0 : s₁.heap = h0 := by rw [← hh, Bd.state]; rfl
  have N0 := Fr.nil n0
  have pre0 : ∀ t, Steps p.tables e below (s₁.setTop (mkF m 0 #[.val (.int p1), .val (.int p2), .unset] [])) t → Steps p.tables e below (s₁.setTop (entryFrame m #[(.int p1), (.int p2)] 3)) t := fun t k => castTop (ef_0 m p1 p2) k
  obtain ⟨T1, h1, k1, X1, e1, E1, A1, EX1, st1⟩ := newPE X0 hx hZ (hw _ (List.mem_of_getElem? (i := 4) rfl)) e0 (g := (mkF m 1 #[.val (.int p1), .val (.int p2), .unset] [(.int p2)])) rfl (hb hby d_method_3_code_1) rfl hn.1 (cap := 4) hn.2 (by decide) (by decide) (by decide) (ad := "[B") (by decide)
  obtain ⟨b1, gg1⟩ : ∃ z, z = h0.size := ⟨_, rfl⟩
  rw [← gg1] at A1 EX1 st1
  have g_b1 : n0 ≤ b1 := Nat.le_trans Z0 (Nat.le_of_eq gg1.symm)
  have sz_b1 : h0.size ≤ b1 := Nat.le_trans (Keep.refl h0 []).1 (Nat.le_of_eq gg1.symm)
  have Q1 : Keep h0 h1 [] := (Keep.refl h0 []).ext E1
  have V_b1 : Arv Z h1 b1 k1 .byte p2 [(.int (0 : Int32)), (.int (0 : Int32)), (.int (0 : Int32)), (.int (0 : Int32))] (.int (0 : Int32)) := (Arv.new A1 hn.1).pad (pad_rep [] (.int (0 : Int32)) 4)
  obtain ⟨cl2, Ar2, q2, S2, M2, H2, G2⟩ := id V_b1
  have hin2 : ¬ ((0 : Int32) < 0 ∨ cl2.slots.size ≤ ((0 : Int32)).toNatClampNeg) := inb_of S2 ⟨by decide, (hc5)⟩
  obtain ⟨T3, h3, X3, e3, W3, st3⟩ := stB X1 hx hZ e1 Ar2 (j := (0 : Int32)) hin2 (g := (mkF m 12 #[.val (.int p1), .val (.int p2), .val (.ref b1)] [(.int (own_by0 p1)), (.int (0 : Int32)), (.ref b1)])) rfl rfl (hb hby d_method_3_code_12)
  have V3 : Arv Z h3 b1 k1 .byte p2 [(.int ((own_by0 p1).toInt8.toInt32)), (.int (0 : Int32)), (.int (0 : Int32)), (.int (0 : Int32))] (.int (0 : Int32)) := Arv.set Ar2 q2 S2 M2 H2 G2 (fits_nar_byte _) W3 0 rfl (Nat.le_of_ble_eq_true rfl)
  have Q3 : Keep h0 h3 [] := Q1.wr W3 (Or.inr sz_b1)
  have N3 := Fr.snoc X3 N0 g_b1
  obtain ⟨cl4, Ar4, q4, S4, M4, H4, G4⟩ := id V3
  have hin4 : ¬ ((1 : Int32) < 0 ∨ cl4.slots.size ≤ ((1 : Int32)).toNatClampNeg) := inb_of S4 ⟨by decide, (hc15)⟩
  obtain ⟨T5, h5, X5, e5, W5, st5⟩ := stB X3 hx hZ e3 Ar4 (j := (1 : Int32)) hin4 (g := (mkF m 25 #[.val (.int p1), .val (.int p2), .val (.ref b1)] [(.int (own_by p1 (8 : Int32))), (.int (1 : Int32)), (.ref b1)])) rfl rfl (hb hby d_method_3_code_25)
  have V5 : Arv Z h5 b1 k1 .byte p2 [(.int ((own_by0 p1).toInt8.toInt32)), (.int ((own_by p1 (8 : Int32)).toInt8.toInt32)), (.int (0 : Int32)), (.int (0 : Int32))] (.int (0 : Int32)) := Arv.set Ar4 q4 S4 M4 H4 G4 (fits_nar_byte _) W5 1 rfl (Nat.le_of_ble_eq_true rfl)
  have Q5 : Keep h0 h5 [] := Q3.wr W5 (Or.inr sz_b1)
  have N5 := Fr.snoc X5 N3 g_b1
  obtain ⟨cl6, Ar6, q6, S6, M6, H6, G6⟩ := id V5
  have hin6 : ¬ ((2 : Int32) < 0 ∨ cl6.slots.size ≤ ((2 : Int32)).toNatClampNeg) := inb_of S6 ⟨by decide, (hc28)⟩
  obtain ⟨T7, h7, X7, e7, W7, st7⟩ := stB X5 hx hZ e5 Ar6 (j := (2 : Int32)) hin6 (g := (mkF m 38 #[.val (.int p1), .val (.int p2), .val (.ref b1)] [(.int (own_by p1 (16 : Int32))), (.int (2 : Int32)), (.ref b1)])) rfl rfl (hb hby d_method_3_code_38)
  have V7 : Arv Z h7 b1 k1 .byte p2 [(.int ((own_by0 p1).toInt8.toInt32)), (.int ((own_by p1 (8 : Int32)).toInt8.toInt32)), (.int ((own_by p1 (16 : Int32)).toInt8.toInt32)), (.int (0 : Int32))] (.int (0 : Int32)) := Arv.set Ar6 q6 S6 M6 H6 G6 (fits_nar_byte _) W7 2 rfl (Nat.le_of_ble_eq_true rfl)
  have Q7 : Keep h0 h7 [] := Q5.wr W7 (Or.inr sz_b1)
  have N7 := Fr.snoc X7 N5 g_b1
  obtain ⟨cl8, Ar8, q8, S8, M8, H8, G8⟩ := id V7
  have hin8 : ¬ ((3 : Int32) < 0 ∨ cl8.slots.size ≤ ((3 : Int32)).toNatClampNeg) := inb_of S8 ⟨by decide, (hc41)⟩
  obtain ⟨T9, h9, X9, e9, W9, st9⟩ := stB X7 hx hZ e7 Ar8 (j := (3 : Int32)) hin8 (g := (mkF m 51 #[.val (.int p1), .val (.int p2), .val (.ref b1)] [(.int (own_by p1 (24 : Int32))), (.int (3 : Int32)), (.ref b1)])) rfl rfl (hb hby d_method_3_code_51)
  have V9 : Arv Z h9 b1 k1 .byte p2 [(.int ((own_by0 p1).toInt8.toInt32)), (.int ((own_by p1 (8 : Int32)).toInt8.toInt32)), (.int ((own_by p1 (16 : Int32)).toInt8.toInt32)), (.int ((own_by p1 (24 : Int32)).toInt8.toInt32))] (.int (0 : Int32)) := Arv.set Ar8 q8 S8 M8 H8 G8 (fits_nar_byte _) W9 3 rfl (Nat.le_of_ble_eq_true rfl)
  have Q9 : Keep h0 h9 [] := Q7.wr W9 (Or.inr sz_b1)
  have N9 := Fr.snoc X9 N7 g_b1
  obtain ⟨fs, hr, hrun, hended, hW, hsame⟩ := X9.leave (v := some (.ref b1)) (fun h => by rw [Bd.returns] at h; cases h)
  refine ⟨_, _, pre0 _ ?_, hrun, hended, _, _, rfl, ?_, ⟨_, rfl⟩, hW, hsame.mono (by decide) (by decide)⟩
  · show Steps p.tables e below (s₁.setTop (mkF m 0 #[.val (.int p1), .val (.int p2), .unset] [])) _
    refine XS.iloadN X0.here hx rfl (hb hby d_method_3_code_0) rfl ?_
    show Steps p.tables e below (s₁.setTop (mkF m 1 #[.val (.int p1), .val (.int p2), .unset] [(.int p2)])) _
    refine st1 _ ?_
    show Steps p.tables e below (T1.setTop (mkF m 3 #[.val (.int p1), .val (.int p2), .unset] [(.ref b1)])) _
    refine XS.astoreN X1.here hx rfl (hb hby d_method_3_code_3) rfl rfl (l' := #[.val (.int p1), .val (.int p2), .val (.ref b1)]) rfl ?_
    show Steps p.tables e below (T1.setTop (mkF m 4 #[.val (.int p1), .val (.int p2), .val (.ref b1)] [])) _
    refine XS.iloadN X1.here hx rfl (hb hby d_method_3_code_4) rfl ?_
    show Steps p.tables e below (T1.setTop (mkF m 5 #[.val (.int p1), .val (.int p2), .val (.ref b1)] [(.int p2)])) _
    refine XS.ifNo X1.here hx rfl (hb hby d_method_3_code_5) rfl ((if0 _ _).trans (tlt hc5).2.2.2) ?_
    show Steps p.tables e below (T1.setTop (mkF m 8 #[.val (.int p1), .val (.int p2), .val (.ref b1)] [])) _
    refine XS.aloadN X1.here hx rfl (hb hby d_method_3_code_8) rfl rfl ?_
    show Steps p.tables e below (T1.setTop (mkF m 9 #[.val (.int p1), .val (.int p2), .val (.ref b1)] [(.ref b1)])) _
    refine XS.iconst X1.here hx rfl (hb hby d_method_3_code_9) ?_
    show Steps p.tables e below (T1.setTop (mkF m 10 #[.val (.int p1), .val (.int p2), .val (.ref b1)] [(.int (0 : Int32)), (.ref b1)])) _
    refine XS.iloadN X1.here hx rfl (hb hby d_method_3_code_10) rfl ?_
    show Steps p.tables e below (T1.setTop (mkF m 11 #[.val (.int p1), .val (.int p2), .val (.ref b1)] [(.int p1), (.int (0 : Int32)), (.ref b1)])) _
    refine XS.i2b X1.here hx rfl (hb hby d_method_3_code_11) rfl ?_
    show Steps p.tables e below (T1.setTop (mkF m 12 #[.val (.int p1), .val (.int p2), .val (.ref b1)] [(.int (own_by0 p1)), (.int (0 : Int32)), (.ref b1)])) _
    refine st3 _ ?_
    show Steps p.tables e below (T3.setTop (mkF m 13 #[.val (.int p1), .val (.int p2), .val (.ref b1)] [])) _
    refine XS.iloadN X3.here hx rfl (hb hby d_method_3_code_13) rfl ?_
    show Steps p.tables e below (T3.setTop (mkF m 14 #[.val (.int p1), .val (.int p2), .val (.ref b1)] [(.int p2)])) _
    refine XS.iconst X3.here hx rfl (hb hby d_method_3_code_14) ?_
    show Steps p.tables e below (T3.setTop (mkF m 15 #[.val (.int p1), .val (.int p2), .val (.ref b1)] [(.int (1 : Int32)), (.int p2)])) _
    refine XS.icmpNo X3.here hx rfl (hb hby d_method_3_code_15) rfl (tlt hc15).2.2.2 ?_
    show Steps p.tables e below (T3.setTop (mkF m 18 #[.val (.int p1), .val (.int p2), .val (.ref b1)] [])) _
    refine XS.aloadN X3.here hx rfl (hb hby d_method_3_code_18) rfl rfl ?_
    show Steps p.tables e below (T3.setTop (mkF m 19 #[.val (.int p1), .val (.int p2), .val (.ref b1)] [(.ref b1)])) _
    refine XS.iconst X3.here hx rfl (hb hby d_method_3_code_19) ?_
    show Steps p.tables e below (T3.setTop (mkF m 20 #[.val (.int p1), .val (.int p2), .val (.ref b1)] [(.int (1 : Int32)), (.ref b1)])) _
    refine XS.iloadN X3.here hx rfl (hb hby d_method_3_code_20) rfl ?_
    show Steps p.tables e below (T3.setTop (mkF m 21 #[.val (.int p1), .val (.int p2), .val (.ref b1)] [(.int p1), (.int (1 : Int32)), (.ref b1)])) _
    refine XS.bipush X3.here hx rfl (hb hby d_method_3_code_21) ?_
    show Steps p.tables e below (T3.setTop (mkF m 23 #[.val (.int p1), .val (.int p2), .val (.ref b1)] [(.int (8 : Int32)), (.int p1), (.int (1 : Int32)), (.ref b1)])) _
    refine XS.iushr X3.here hx rfl (hb hby d_method_3_code_23) rfl ?_
    show Steps p.tables e below (T3.setTop (mkF m 24 #[.val (.int p1), .val (.int p2), .val (.ref b1)] [(.int ((p1.toUInt32 >>> ((8 : Int32) &&& 31).toUInt32).toInt32)), (.int (1 : Int32)), (.ref b1)])) _
    refine XS.i2b X3.here hx rfl (hb hby d_method_3_code_24) rfl ?_
    show Steps p.tables e below (T3.setTop (mkF m 25 #[.val (.int p1), .val (.int p2), .val (.ref b1)] [(.int (own_by p1 (8 : Int32))), (.int (1 : Int32)), (.ref b1)])) _
    refine st5 _ ?_
    show Steps p.tables e below (T5.setTop (mkF m 26 #[.val (.int p1), .val (.int p2), .val (.ref b1)] [])) _
    refine XS.iloadN X5.here hx rfl (hb hby d_method_3_code_26) rfl ?_
    show Steps p.tables e below (T5.setTop (mkF m 27 #[.val (.int p1), .val (.int p2), .val (.ref b1)] [(.int p2)])) _
    refine XS.iconst X5.here hx rfl (hb hby d_method_3_code_27) ?_
    show Steps p.tables e below (T5.setTop (mkF m 28 #[.val (.int p1), .val (.int p2), .val (.ref b1)] [(.int (2 : Int32)), (.int p2)])) _
    refine XS.icmpNo X5.here hx rfl (hb hby d_method_3_code_28) rfl (tlt hc28).2.2.2 ?_
    show Steps p.tables e below (T5.setTop (mkF m 31 #[.val (.int p1), .val (.int p2), .val (.ref b1)] [])) _
    refine XS.aloadN X5.here hx rfl (hb hby d_method_3_code_31) rfl rfl ?_
    show Steps p.tables e below (T5.setTop (mkF m 32 #[.val (.int p1), .val (.int p2), .val (.ref b1)] [(.ref b1)])) _
    refine XS.iconst X5.here hx rfl (hb hby d_method_3_code_32) ?_
    show Steps p.tables e below (T5.setTop (mkF m 33 #[.val (.int p1), .val (.int p2), .val (.ref b1)] [(.int (2 : Int32)), (.ref b1)])) _
    refine XS.iloadN X5.here hx rfl (hb hby d_method_3_code_33) rfl ?_
    show Steps p.tables e below (T5.setTop (mkF m 34 #[.val (.int p1), .val (.int p2), .val (.ref b1)] [(.int p1), (.int (2 : Int32)), (.ref b1)])) _
    refine XS.bipush X5.here hx rfl (hb hby d_method_3_code_34) ?_
    show Steps p.tables e below (T5.setTop (mkF m 36 #[.val (.int p1), .val (.int p2), .val (.ref b1)] [(.int (16 : Int32)), (.int p1), (.int (2 : Int32)), (.ref b1)])) _
    refine XS.iushr X5.here hx rfl (hb hby d_method_3_code_36) rfl ?_
    show Steps p.tables e below (T5.setTop (mkF m 37 #[.val (.int p1), .val (.int p2), .val (.ref b1)] [(.int ((p1.toUInt32 >>> ((16 : Int32) &&& 31).toUInt32).toInt32)), (.int (2 : Int32)), (.ref b1)])) _
    refine XS.i2b X5.here hx rfl (hb hby d_method_3_code_37) rfl ?_
    show Steps p.tables e below (T5.setTop (mkF m 38 #[.val (.int p1), .val (.int p2), .val (.ref b1)] [(.int (own_by p1 (16 : Int32))), (.int (2 : Int32)), (.ref b1)])) _
    refine st7 _ ?_
    show Steps p.tables e below (T7.setTop (mkF m 39 #[.val (.int p1), .val (.int p2), .val (.ref b1)] [])) _
    refine XS.iloadN X7.here hx rfl (hb hby d_method_3_code_39) rfl ?_
    show Steps p.tables e below (T7.setTop (mkF m 40 #[.val (.int p1), .val (.int p2), .val (.ref b1)] [(.int p2)])) _
    refine XS.iconst X7.here hx rfl (hb hby d_method_3_code_40) ?_
    show Steps p.tables e below (T7.setTop (mkF m 41 #[.val (.int p1), .val (.int p2), .val (.ref b1)] [(.int (3 : Int32)), (.int p2)])) _
    refine XS.icmpNo X7.here hx rfl (hb hby d_method_3_code_41) rfl (tlt hc41).2.2.2 ?_
    show Steps p.tables e below (T7.setTop (mkF m 44 #[.val (.int p1), .val (.int p2), .val (.ref b1)] [])) _
    refine XS.aloadN X7.here hx rfl (hb hby d_method_3_code_44) rfl rfl ?_
    show Steps p.tables e below (T7.setTop (mkF m 45 #[.val (.int p1), .val (.int p2), .val (.ref b1)] [(.ref b1)])) _
    refine XS.iconst X7.here hx rfl (hb hby d_method_3_code_45) ?_
    show Steps p.tables e below (T7.setTop (mkF m 46 #[.val (.int p1), .val (.int p2), .val (.ref b1)] [(.int (3 : Int32)), (.ref b1)])) _
    refine XS.iloadN X7.here hx rfl (hb hby d_method_3_code_46) rfl ?_
    show Steps p.tables e below (T7.setTop (mkF m 47 #[.val (.int p1), .val (.int p2), .val (.ref b1)] [(.int p1), (.int (3 : Int32)), (.ref b1)])) _
    refine XS.bipush X7.here hx rfl (hb hby d_method_3_code_47) ?_
    show Steps p.tables e below (T7.setTop (mkF m 49 #[.val (.int p1), .val (.int p2), .val (.ref b1)] [(.int (24 : Int32)), (.int p1), (.int (3 : Int32)), (.ref b1)])) _
    refine XS.iushr X7.here hx rfl (hb hby d_method_3_code_49) rfl ?_
    show Steps p.tables e below (T7.setTop (mkF m 50 #[.val (.int p1), .val (.int p2), .val (.ref b1)] [(.int ((p1.toUInt32 >>> ((24 : Int32) &&& 31).toUInt32).toInt32)), (.int (3 : Int32)), (.ref b1)])) _
    refine XS.i2b X7.here hx rfl (hb hby d_method_3_code_50) rfl ?_
    show Steps p.tables e below (T7.setTop (mkF m 51 #[.val (.int p1), .val (.int p2), .val (.ref b1)] [(.int (own_by p1 (24 : Int32))), (.int (3 : Int32)), (.ref b1)])) _
    refine st9 _ ?_
    show Steps p.tables e below (T9.setTop (mkF m 52 #[.val (.int p1), .val (.int p2), .val (.ref b1)] [])) _
    refine XS.aloadN X9.here hx rfl (hb hby d_method_3_code_52) rfl rfl ?_
    show Steps p.tables e below (T9.setTop (mkF m 53 #[.val (.int p1), .val (.int p2), .val (.ref b1)] [(.ref b1)])) _
    exact X9.areturnOut hx rfl Bd.returns rfl (hb hby d_method_3_code_53) hr
  · show Q_rmMk Z p1 p2 h0 n0 _ T9.heap _
    rw [e9]
    exact ⟨b1, k1, rfl, N9, Q9, g_b1, sz_b1, (own_conv V9 rfl (own_mk4 p1 p2 hn.1 hc5 hc15 hc28 hc41)), ((((EX1.wr W3).wr W5).wr W7).wr W9)⟩
set_option maxRecDepth 65536 in
set_option maxHeartbeats 40000000 in
theorem rmMk_tttf (l : Launch) (Z : State) (a0 : Array Value) (hw : ∀ d ∈ tables_1, d.before a0 Z = true) (ws : List Jvm.Cond) (p1 : Int32) (p2 : Int32) (h0 : Heap) (n0 : Nat) (Z0 : n0 ≤ h0.size) (hn : own_B p2 4) (hc5 : (0 : Int32) < p2) (hc15 : (1 : Int32) < p2) (hc28 : (2 : Int32) < p2) (hc41 : ¬ ((3 : Int32) < p2)) :
    MetFree l (⟨"com/example/insistent_hook/insistenthook/store/KeysConcatPinLaw", "make", "(II)[B"⟩ : MethodName) (head1 (Jvm.Cond.code (⟨"com/example/insistent_hook/insistenthook/store/KeysConcatPinLaw", "make", "(II)[B"⟩ : MethodName) method_3_code 3 (some (.array .byte)) :: ws) ({ frames := 0, cells := 1, slots := 4, locals := 0 } : Room)) (fun a U => a = #[(.int p1), (.int p2)] ∧ Z.Warmed39 U.vm ∧ U.heap = h0) (fun _ _ _ _ _ => True) (fun _ U o U' => ∃ v L, o = .returned v ∧ Q_rmMk Z p1 p2 h0 n0 v U'.heap L ∧ FrameEnd U o U' L ({ frames := 0, cells := 1, slots := 4, locals := 0 } : Room).cells ({ frames := 0, cells := 1, slots := 4, locals := 0 } : Room).slots) := by
  refine MetFree.of_bodySF (plainFor_of_name pn_0) hisR ?_
  intro p e s m args below meth c s₁ Bd hml0 hP hK
  obtain ⟨rfl, hZ, hh⟩ := hP
  have hx := Bd.exec
  have hby := Bd.bytes
  have hml : c.maxLocals = 3 := hml0
  have hown : s.vm.findClass "com/example/insistent_hook/insistenthook/store/KeysConcatPinLaw" = some m.cls := findClass_of_methodNamed Bd.named
  have hnm := (name_of_methodNamed Bd.named Bd.method).1
  have X0 : Stand p l e ({ frames := 0, cells := 1, slots := 4, locals := 0 } : Room) s m #[(.int p1), (.int p2)] below meth c s₁ [] 0 0 := Stand.of_body Bd
  have e0 : s₁.heap = h0 := by rw [← hh, Bd.state]; rfl
  have N0 := Fr.nil n0
  have pre0 : ∀ t, Steps p.tables e below (s₁.setTop (mkF m 0 #[.val (.int p1), .val (.int p2), .unset] [])) t → Steps p.tables e below (s₁.setTop (entryFrame m #[(.int p1), (.int p2)] 3)) t := fun t k => castTop (ef_0 m p1 p2) k
  obtain ⟨T1, h1, k1, X1, e1, E1, A1, EX1, st1⟩ := newPE X0 hx hZ (hw _ (List.mem_of_getElem? (i := 4) rfl)) e0 (g := (mkF m 1 #[.val (.int p1), .val (.int p2), .unset] [(.int p2)])) rfl (hb hby d_method_3_code_1) rfl hn.1 (cap := 4) hn.2 (by decide) (by decide) (by decide) (ad := "[B") (by decide)
  obtain ⟨b1, gg1⟩ : ∃ z, z = h0.size := ⟨_, rfl⟩
  rw [← gg1] at A1 EX1 st1
  have g_b1 : n0 ≤ b1 := Nat.le_trans Z0 (Nat.le_of_eq gg1.symm)
  have sz_b1 : h0.size ≤ b1 := Nat.le_trans (Keep.refl h0 []).1 (Nat.le_of_eq gg1.symm)
  have Q1 : Keep h0 h1 [] := (Keep.refl h0 []).ext E1
  have V_b1 : Arv Z h1 b1 k1 .byte p2 [(.int (0 : Int32)), (.int (0 : Int32)), (.int (0 : Int32)), (.int (0 : Int32))] (.int (0 : Int32)) := (Arv.new A1 hn.1).pad (pad_rep [] (.int (0 : Int32)) 4)
  obtain ⟨cl2, Ar2, q2, S2, M2, H2, G2⟩ := id V_b1
  have hin2 : ¬ ((0 : Int32) < 0 ∨ cl2.slots.size ≤ ((0 : Int32)).toNatClampNeg) := inb_of S2 ⟨by decide, (hc5)⟩
  obtain ⟨T3, h3, X3, e3, W3, st3⟩ := stB X1 hx hZ e1 Ar2 (j := (0 : Int32)) hin2 (g := (mkF m 12 #[.val (.int p1), .val (.int p2), .val (.ref b1)] [(.int (own_by0 p1)), (.int (0 : Int32)), (.ref b1)])) rfl rfl (hb hby d_method_3_code_12)
  have V3 : Arv Z h3 b1 k1 .byte p2 [(.int ((own_by0 p1).toInt8.toInt32)), (.int (0 : Int32)), (.int (0 : Int32)), (.int (0 : Int32))] (.int (0 : Int32)) := Arv.set Ar2 q2 S2 M2 H2 G2 (fits_nar_byte _) W3 0 rfl (Nat.le_of_ble_eq_true rfl)
  have Q3 : Keep h0 h3 [] := Q1.wr W3 (Or.inr sz_b1)
  have N3 := Fr.snoc X3 N0 g_b1
  obtain ⟨cl4, Ar4, q4, S4, M4, H4, G4⟩ := id V3
  have hin4 : ¬ ((1 : Int32) < 0 ∨ cl4.slots.size ≤ ((1 : Int32)).toNatClampNeg) := inb_of S4 ⟨by decide, (hc15)⟩
  obtain ⟨T5, h5, X5, e5, W5, st5⟩ := stB X3 hx hZ e3 Ar4 (j := (1 : Int32)) hin4 (g := (mkF m 25 #[.val (.int p1), .val (.int p2), .val (.ref b1)] [(.int (own_by p1 (8 : Int32))), (.int (1 : Int32)), (.ref b1)])) rfl rfl (hb hby d_method_3_code_25)
  have V5 : Arv Z h5 b1 k1 .byte p2 [(.int ((own_by0 p1).toInt8.toInt32)), (.int ((own_by p1 (8 : Int32)).toInt8.toInt32)), (.int (0 : Int32)), (.int (0 : Int32))] (.int (0 : Int32)) := Arv.set Ar4 q4 S4 M4 H4 G4 (fits_nar_byte _) W5 1 rfl (Nat.le_of_ble_eq_true rfl)
  have Q5 : Keep h0 h5 [] := Q3.wr W5 (Or.inr sz_b1)
  have N5 := Fr.snoc X5 N3 g_b1
  obtain ⟨cl6, Ar6, q6, S6, M6, H6, G6⟩ := id V5
  have hin6 : ¬ ((2 : Int32) < 0 ∨ cl6.slots.size ≤ ((2 : Int32)).toNatClampNeg) := inb_of S6 ⟨by decide, (hc28)⟩
  obtain ⟨T7, h7, X7, e7, W7, st7⟩ := stB X5 hx hZ e5 Ar6 (j := (2 : Int32)) hin6 (g := (mkF m 38 #[.val (.int p1), .val (.int p2), .val (.ref b1)] [(.int (own_by p1 (16 : Int32))), (.int (2 : Int32)), (.ref b1)])) rfl rfl (hb hby d_method_3_code_38)
  have V7 : Arv Z h7 b1 k1 .byte p2 [(.int ((own_by0 p1).toInt8.toInt32)), (.int ((own_by p1 (8 : Int32)).toInt8.toInt32)), (.int ((own_by p1 (16 : Int32)).toInt8.toInt32)), (.int (0 : Int32))] (.int (0 : Int32)) := Arv.set Ar6 q6 S6 M6 H6 G6 (fits_nar_byte _) W7 2 rfl (Nat.le_of_ble_eq_true rfl)
  have Q7 : Keep h0 h7 [] := Q5.wr W7 (Or.inr sz_b1)
  have N7 := Fr.snoc X7 N5 g_b1
  obtain ⟨fs, hr, hrun, hended, hW, hsame⟩ := X7.leave (v := some (.ref b1)) (fun h => by rw [Bd.returns] at h; cases h)
  refine ⟨_, _, pre0 _ ?_, hrun, hended, _, _, rfl, ?_, ⟨_, rfl⟩, hW, hsame.mono (by decide) (by decide)⟩
  · show Steps p.tables e below (s₁.setTop (mkF m 0 #[.val (.int p1), .val (.int p2), .unset] [])) _
    refine XS.iloadN X0.here hx rfl (hb hby d_method_3_code_0) rfl ?_
    show Steps p.tables e below (s₁.setTop (mkF m 1 #[.val (.int p1), .val (.int p2), .unset] [(.int p2)])) _
    refine st1 _ ?_
    show Steps p.tables e below (T1.setTop (mkF m 3 #[.val (.int p1), .val (.int p2), .unset] [(.ref b1)])) _
    refine XS.astoreN X1.here hx rfl (hb hby d_method_3_code_3) rfl rfl (l' := #[.val (.int p1), .val (.int p2), .val (.ref b1)]) rfl ?_
    show Steps p.tables e below (T1.setTop (mkF m 4 #[.val (.int p1), .val (.int p2), .val (.ref b1)] [])) _
    refine XS.iloadN X1.here hx rfl (hb hby d_method_3_code_4) rfl ?_
    show Steps p.tables e below (T1.setTop (mkF m 5 #[.val (.int p1), .val (.int p2), .val (.ref b1)] [(.int p2)])) _
    refine XS.ifNo X1.here hx rfl (hb hby d_method_3_code_5) rfl ((if0 _ _).trans (tlt hc5).2.2.2) ?_
    show Steps p.tables e below (T1.setTop (mkF m 8 #[.val (.int p1), .val (.int p2), .val (.ref b1)] [])) _
    refine XS.aloadN X1.here hx rfl (hb hby d_method_3_code_8) rfl rfl ?_
    show Steps p.tables e below (T1.setTop (mkF m 9 #[.val (.int p1), .val (.int p2), .val (.ref b1)] [(.ref b1)])) _
    refine XS.iconst X1.here hx rfl (hb hby d_method_3_code_9) ?_
    show Steps p.tables e below (T1.setTop (mkF m 10 #[.val (.int p1), .val (.int p2), .val (.ref b1)] [(.int (0 : Int32)), (.ref b1)])) _
    refine XS.iloadN X1.here hx rfl (hb hby d_method_3_code_10) rfl ?_
    show Steps p.tables e below (T1.setTop (mkF m 11 #[.val (.int p1), .val (.int p2), .val (.ref b1)] [(.int p1), (.int (0 : Int32)), (.ref b1)])) _
    refine XS.i2b X1.here hx rfl (hb hby d_method_3_code_11) rfl ?_
    show Steps p.tables e below (T1.setTop (mkF m 12 #[.val (.int p1), .val (.int p2), .val (.ref b1)] [(.int (own_by0 p1)), (.int (0 : Int32)), (.ref b1)])) _
    refine st3 _ ?_
    show Steps p.tables e below (T3.setTop (mkF m 13 #[.val (.int p1), .val (.int p2), .val (.ref b1)] [])) _
    refine XS.iloadN X3.here hx rfl (hb hby d_method_3_code_13) rfl ?_
    show Steps p.tables e below (T3.setTop (mkF m 14 #[.val (.int p1), .val (.int p2), .val (.ref b1)] [(.int p2)])) _
    refine XS.iconst X3.here hx rfl (hb hby d_method_3_code_14) ?_
    show Steps p.tables e below (T3.setTop (mkF m 15 #[.val (.int p1), .val (.int p2), .val (.ref b1)] [(.int (1 : Int32)), (.int p2)])) _
    refine XS.icmpNo X3.here hx rfl (hb hby d_method_3_code_15) rfl (tlt hc15).2.2.2 ?_
    show Steps p.tables e below (T3.setTop (mkF m 18 #[.val (.int p1), .val (.int p2), .val (.ref b1)] [])) _
    refine XS.aloadN X3.here hx rfl (hb hby d_method_3_code_18) rfl rfl ?_
    show Steps p.tables e below (T3.setTop (mkF m 19 #[.val (.int p1), .val (.int p2), .val (.ref b1)] [(.ref b1)])) _
    refine XS.iconst X3.here hx rfl (hb hby d_method_3_code_19) ?_
    show Steps p.tables e below (T3.setTop (mkF m 20 #[.val (.int p1), .val (.int p2), .val (.ref b1)] [(.int (1 : Int32)), (.ref b1)])) _
    refine XS.iloadN X3.here hx rfl (hb hby d_method_3_code_20) rfl ?_
    show Steps p.tables e below (T3.setTop (mkF m 21 #[.val (.int p1), .val (.int p2), .val (.ref b1)] [(.int p1), (.int (1 : Int32)), (.ref b1)])) _
    refine XS.bipush X3.here hx rfl (hb hby d_method_3_code_21) ?_
    show Steps p.tables e below (T3.setTop (mkF m 23 #[.val (.int p1), .val (.int p2), .val (.ref b1)] [(.int (8 : Int32)), (.int p1), (.int (1 : Int32)), (.ref b1)])) _
    refine XS.iushr X3.here hx rfl (hb hby d_method_3_code_23) rfl ?_
    show Steps p.tables e below (T3.setTop (mkF m 24 #[.val (.int p1), .val (.int p2), .val (.ref b1)] [(.int ((p1.toUInt32 >>> ((8 : Int32) &&& 31).toUInt32).toInt32)), (.int (1 : Int32)), (.ref b1)])) _
    refine XS.i2b X3.here hx rfl (hb hby d_method_3_code_24) rfl ?_
    show Steps p.tables e below (T3.setTop (mkF m 25 #[.val (.int p1), .val (.int p2), .val (.ref b1)] [(.int (own_by p1 (8 : Int32))), (.int (1 : Int32)), (.ref b1)])) _
    refine st5 _ ?_
    show Steps p.tables e below (T5.setTop (mkF m 26 #[.val (.int p1), .val (.int p2), .val (.ref b1)] [])) _
    refine XS.iloadN X5.here hx rfl (hb hby d_method_3_code_26) rfl ?_
    show Steps p.tables e below (T5.setTop (mkF m 27 #[.val (.int p1), .val (.int p2), .val (.ref b1)] [(.int p2)])) _
    refine XS.iconst X5.here hx rfl (hb hby d_method_3_code_27) ?_
    show Steps p.tables e below (T5.setTop (mkF m 28 #[.val (.int p1), .val (.int p2), .val (.ref b1)] [(.int (2 : Int32)), (.int p2)])) _
    refine XS.icmpNo X5.here hx rfl (hb hby d_method_3_code_28) rfl (tlt hc28).2.2.2 ?_
    show Steps p.tables e below (T5.setTop (mkF m 31 #[.val (.int p1), .val (.int p2), .val (.ref b1)] [])) _
    refine XS.aloadN X5.here hx rfl (hb hby d_method_3_code_31) rfl rfl ?_
    show Steps p.tables e below (T5.setTop (mkF m 32 #[.val (.int p1), .val (.int p2), .val (.ref b1)] [(.ref b1)])) _
    refine XS.iconst X5.here hx rfl (hb hby d_method_3_code_32) ?_
    show Steps p.tables e below (T5.setTop (mkF m 33 #[.val (.int p1), .val (.int p2), .val (.ref b1)] [(.int (2 : Int32)), (.ref b1)])) _
    refine XS.iloadN X5.here hx rfl (hb hby d_method_3_code_33) rfl ?_
    show Steps p.tables e below (T5.setTop (mkF m 34 #[.val (.int p1), .val (.int p2), .val (.ref b1)] [(.int p1), (.int (2 : Int32)), (.ref b1)])) _
    refine XS.bipush X5.here hx rfl (hb hby d_method_3_code_34) ?_
    show Steps p.tables e below (T5.setTop (mkF m 36 #[.val (.int p1), .val (.int p2), .val (.ref b1)] [(.int (16 : Int32)), (.int p1), (.int (2 : Int32)), (.ref b1)])) _
    refine XS.iushr X5.here hx rfl (hb hby d_method_3_code_36) rfl ?_
    show Steps p.tables e below (T5.setTop (mkF m 37 #[.val (.int p1), .val (.int p2), .val (.ref b1)] [(.int ((p1.toUInt32 >>> ((16 : Int32) &&& 31).toUInt32).toInt32)), (.int (2 : Int32)), (.ref b1)])) _
    refine XS.i2b X5.here hx rfl (hb hby d_method_3_code_37) rfl ?_
    show Steps p.tables e below (T5.setTop (mkF m 38 #[.val (.int p1), .val (.int p2), .val (.ref b1)] [(.int (own_by p1 (16 : Int32))), (.int (2 : Int32)), (.ref b1)])) _
    refine st7 _ ?_
    show Steps p.tables e below (T7.setTop (mkF m 39 #[.val (.int p1), .val (.int p2), .val (.ref b1)] [])) _
    refine XS.iloadN X7.here hx rfl (hb hby d_method_3_code_39) rfl ?_
    show Steps p.tables e below (T7.setTop (mkF m 40 #[.val (.int p1), .val (.int p2), .val (.ref b1)] [(.int p2)])) _
    refine XS.iconst X7.here hx rfl (hb hby d_method_3_code_40) ?_
    show Steps p.tables e below (T7.setTop (mkF m 41 #[.val (.int p1), .val (.int p2), .val (.ref b1)] [(.int (3 : Int32)), (.int p2)])) _
    refine XS.icmpYes X7.here hx rfl (pc0 := 41) (pc' := 52) rfl (hb hby d_method_3_code_41) rfl (flt hc41).2.2.2 (by decide) (by decide) ?_
    show Steps p.tables e below (T7.setTop (mkF m 52 #[.val (.int p1), .val (.int p2), .val (.ref b1)] [])) _
    refine XS.aloadN X7.here hx rfl (hb hby d_method_3_code_52) rfl rfl ?_
    show Steps p.tables e below (T7.setTop (mkF m 53 #[.val (.int p1), .val (.int p2), .val (.ref b1)] [(.ref b1)])) _
    exact X7.areturnOut hx rfl Bd.returns rfl (hb hby d_method_3_code_53) hr
  · show Q_rmMk Z p1 p2 h0 n0 _ T7.heap _
    rw [e7]
    exact ⟨b1, k1, rfl, N7, Q7, g_b1, sz_b1, (own_conv V7 rfl (own_mk3 p1 p2 hn.1 hc5 hc15 hc28 hc41)), (((EX1.wr W3).wr W5).wr W7)⟩
set_option maxRecDepth 65536 in
set_option maxHeartbeats 40000000 in
theorem rmMk_ttff (l : Launch) (Z : State) (a0 : Array Value) (hw : ∀ d ∈ tables_1, d.before a0 Z = true) (ws : List Jvm.Cond) (p1 : Int32) (p2 : Int32) (h0 : Heap) (n0 : Nat) (Z0 : n0 ≤ h0.size) (hn : own_B p2 4) (hc5 : (0 : Int32) < p2) (hc15 : (1 : Int32) < p2) (hc28 : ¬ ((2 : Int32) < p2)) (hc41 : ¬ ((3 : Int32) < p2)) :
    MetFree l (⟨"com/example/insistent_hook/insistenthook/store/KeysConcatPinLaw", "make", "(II)[B"⟩ : MethodName) (head1 (Jvm.Cond.code (⟨"com/example/insistent_hook/insistenthook/store/KeysConcatPinLaw", "make", "(II)[B"⟩ : MethodName) method_3_code 3 (some (.array .byte)) :: ws) ({ frames := 0, cells := 1, slots := 4, locals := 0 } : Room)) (fun a U => a = #[(.int p1), (.int p2)] ∧ Z.Warmed39 U.vm ∧ U.heap = h0) (fun _ _ _ _ _ => True) (fun _ U o U' => ∃ v L, o = .returned v ∧ Q_rmMk Z p1 p2 h0 n0 v U'.heap L ∧ FrameEnd U o U' L ({ frames := 0, cells := 1, slots := 4, locals := 0 } : Room).cells ({ frames := 0, cells := 1, slots := 4, locals := 0 } : Room).slots) := by
  refine MetFree.of_bodySF (plainFor_of_name pn_0) hisR ?_
  intro p e s m args below meth c s₁ Bd hml0 hP hK
  obtain ⟨rfl, hZ, hh⟩ := hP
  have hx := Bd.exec
  have hby := Bd.bytes
  have hml : c.maxLocals = 3 := hml0
  have hown : s.vm.findClass "com/example/insistent_hook/insistenthook/store/KeysConcatPinLaw" = some m.cls := findClass_of_methodNamed Bd.named
  have hnm := (name_of_methodNamed Bd.named Bd.method).1
  have X0 : Stand p l e ({ frames := 0, cells := 1, slots := 4, locals := 0 } : Room) s m #[(.int p1), (.int p2)] below meth c s₁ [] 0 0 := Stand.of_body Bd
  have e0 : s₁.heap = h0 := by rw [← hh, Bd.state]; rfl
  have N0 := Fr.nil n0
  have pre0 : ∀ t, Steps p.tables e below (s₁.setTop (mkF m 0 #[.val (.int p1), .val (.int p2), .unset] [])) t → Steps p.tables e below (s₁.setTop (entryFrame m #[(.int p1), (.int p2)] 3)) t := fun t k => castTop (ef_0 m p1 p2) k
  obtain ⟨T1, h1, k1, X1, e1, E1, A1, EX1, st1⟩ := newPE X0 hx hZ (hw _ (List.mem_of_getElem? (i := 4) rfl)) e0 (g := (mkF m 1 #[.val (.int p1), .val (.int p2), .unset] [(.int p2)])) rfl (hb hby d_method_3_code_1) rfl hn.1 (cap := 4) hn.2 (by decide) (by decide) (by decide) (ad := "[B") (by decide)
  obtain ⟨b1, gg1⟩ : ∃ z, z = h0.size := ⟨_, rfl⟩
  rw [← gg1] at A1 EX1 st1
  have g_b1 : n0 ≤ b1 := Nat.le_trans Z0 (Nat.le_of_eq gg1.symm)
  have sz_b1 : h0.size ≤ b1 := Nat.le_trans (Keep.refl h0 []).1 (Nat.le_of_eq gg1.symm)
  have Q1 : Keep h0 h1 [] := (Keep.refl h0 []).ext E1
  have V_b1 : Arv Z h1 b1 k1 .byte p2 [(.int (0 : Int32)), (.int (0 : Int32)), (.int (0 : Int32)), (.int (0 : Int32))] (.int (0 : Int32)) := (Arv.new A1 hn.1).pad (pad_rep [] (.int (0 : Int32)) 4)
  obtain ⟨cl2, Ar2, q2, S2, M2, H2, G2⟩ := id V_b1
  have hin2 : ¬ ((0 : Int32) < 0 ∨ cl2.slots.size ≤ ((0 : Int32)).toNatClampNeg) := inb_of S2 ⟨by decide, (hc5)⟩
  obtain ⟨T3, h3, X3, e3, W3, st3⟩ := stB X1 hx hZ e1 Ar2 (j := (0 : Int32)) hin2 (g := (mkF m 12 #[.val (.int p1), .val (.int p2), .val (.ref b1)] [(.int (own_by0 p1)), (.int (0 : Int32)), (.ref b1)])) rfl rfl (hb hby d_method_3_code_12)
  have V3 : Arv Z h3 b1 k1 .byte p2 [(.int ((own_by0 p1).toInt8.toInt32)), (.int (0 : Int32)), (.int (0 : Int32)), (.int (0 : Int32))] (.int (0 : Int32)) := Arv.set Ar2 q2 S2 M2 H2 G2 (fits_nar_byte _) W3 0 rfl (Nat.le_of_ble_eq_true rfl)
  have Q3 : Keep h0 h3 [] := Q1.wr W3 (Or.inr sz_b1)
  have N3 := Fr.snoc X3 N0 g_b1
  obtain ⟨cl4, Ar4, q4, S4, M4, H4, G4⟩ := id V3
  have hin4 : ¬ ((1 : Int32) < 0 ∨ cl4.slots.size ≤ ((1 : Int32)).toNatClampNeg) := inb_of S4 ⟨by decide, (hc15)⟩
  obtain ⟨T5, h5, X5, e5, W5, st5⟩ := stB X3 hx hZ e3 Ar4 (j := (1 : Int32)) hin4 (g := (mkF m 25 #[.val (.int p1), .val (.int p2), .val (.ref b1)] [(.int (own_by p1 (8 : Int32))), (.int (1 : Int32)), (.ref b1)])) rfl rfl (hb hby d_method_3_code_25)
  have V5 : Arv Z h5 b1 k1 .byte p2 [(.int ((own_by0 p1).toInt8.toInt32)), (.int ((own_by p1 (8 : Int32)).toInt8.toInt32)), (.int (0 : Int32)), (.int (0 : Int32))] (.int (0 : Int32)) := Arv.set Ar4 q4 S4 M4 H4 G4 (fits_nar_byte _) W5 1 rfl (Nat.le_of_ble_eq_true rfl)
  have Q5 : Keep h0 h5 [] := Q3.wr W5 (Or.inr sz_b1)
  have N5 := Fr.snoc X5 N3 g_b1
  obtain ⟨fs, hr, hrun, hended, hW, hsame⟩ := X5.leave (v := some (.ref b1)) (fun h => by rw [Bd.returns] at h; cases h)
  refine ⟨_, _, pre0 _ ?_, hrun, hended, _, _, rfl, ?_, ⟨_, rfl⟩, hW, hsame.mono (by decide) (by decide)⟩
  · show Steps p.tables e below (s₁.setTop (mkF m 0 #[.val (.int p1), .val (.int p2), .unset] [])) _
    refine XS.iloadN X0.here hx rfl (hb hby d_method_3_code_0) rfl ?_
    show Steps p.tables e below (s₁.setTop (mkF m 1 #[.val (.int p1), .val (.int p2), .unset] [(.int p2)])) _
    refine st1 _ ?_
    show Steps p.tables e below (T1.setTop (mkF m 3 #[.val (.int p1), .val (.int p2), .unset] [(.ref b1)])) _
    refine XS.astoreN X1.here hx rfl (hb hby d_method_3_code_3) rfl rfl (l' := #[.val (.int p1), .val (.int p2), .val (.ref b1)]) rfl ?_
    show Steps p.tables e below (T1.setTop (mkF m 4 #[.val (.int p1), .val (.int p2), .val (.ref b1)] [])) _
    refine XS.iloadN X1.here hx rfl (hb hby d_method_3_code_4) rfl ?_
    show Steps p.tables e below (T1.setTop (mkF m 5 #[.val (.int p1), .val (.int p2), .val (.ref b1)] [(.int p2)])) _
    refine XS.ifNo X1.here hx rfl (hb hby d_method_3_code_5) rfl ((if0 _ _).trans (tlt hc5).2.2.2) ?_
    show Steps p.tables e below (T1.setTop (mkF m 8 #[.val (.int p1), .val (.int p2), .val (.ref b1)] [])) _
    refine XS.aloadN X1.here hx rfl (hb hby d_method_3_code_8) rfl rfl ?_
    show Steps p.tables e below (T1.setTop (mkF m 9 #[.val (.int p1), .val (.int p2), .val (.ref b1)] [(.ref b1)])) _
    refine XS.iconst X1.here hx rfl (hb hby d_method_3_code_9) ?_
    show Steps p.tables e below (T1.setTop (mkF m 10 #[.val (.int p1), .val (.int p2), .val (.ref b1)] [(.int (0 : Int32)), (.ref b1)])) _
    refine XS.iloadN X1.here hx rfl (hb hby d_method_3_code_10) rfl ?_
    show Steps p.tables e below (T1.setTop (mkF m 11 #[.val (.int p1), .val (.int p2), .val (.ref b1)] [(.int p1), (.int (0 : Int32)), (.ref b1)])) _
    refine XS.i2b X1.here hx rfl (hb hby d_method_3_code_11) rfl ?_
    show Steps p.tables e below (T1.setTop (mkF m 12 #[.val (.int p1), .val (.int p2), .val (.ref b1)] [(.int (own_by0 p1)), (.int (0 : Int32)), (.ref b1)])) _
    refine st3 _ ?_
    show Steps p.tables e below (T3.setTop (mkF m 13 #[.val (.int p1), .val (.int p2), .val (.ref b1)] [])) _
    refine XS.iloadN X3.here hx rfl (hb hby d_method_3_code_13) rfl ?_
    show Steps p.tables e below (T3.setTop (mkF m 14 #[.val (.int p1), .val (.int p2), .val (.ref b1)] [(.int p2)])) _
    refine XS.iconst X3.here hx rfl (hb hby d_method_3_code_14) ?_
    show Steps p.tables e below (T3.setTop (mkF m 15 #[.val (.int p1), .val (.int p2), .val (.ref b1)] [(.int (1 : Int32)), (.int p2)])) _
    refine XS.icmpNo X3.here hx rfl (hb hby d_method_3_code_15) rfl (tlt hc15).2.2.2 ?_
    show Steps p.tables e below (T3.setTop (mkF m 18 #[.val (.int p1), .val (.int p2), .val (.ref b1)] [])) _
    refine XS.aloadN X3.here hx rfl (hb hby d_method_3_code_18) rfl rfl ?_
    show Steps p.tables e below (T3.setTop (mkF m 19 #[.val (.int p1), .val (.int p2), .val (.ref b1)] [(.ref b1)])) _
    refine XS.iconst X3.here hx rfl (hb hby d_method_3_code_19) ?_
    show Steps p.tables e below (T3.setTop (mkF m 20 #[.val (.int p1), .val (.int p2), .val (.ref b1)] [(.int (1 : Int32)), (.ref b1)])) _
    refine XS.iloadN X3.here hx rfl (hb hby d_method_3_code_20) rfl ?_
    show Steps p.tables e below (T3.setTop (mkF m 21 #[.val (.int p1), .val (.int p2), .val (.ref b1)] [(.int p1), (.int (1 : Int32)), (.ref b1)])) _
    refine XS.bipush X3.here hx rfl (hb hby d_method_3_code_21) ?_
    show Steps p.tables e below (T3.setTop (mkF m 23 #[.val (.int p1), .val (.int p2), .val (.ref b1)] [(.int (8 : Int32)), (.int p1), (.int (1 : Int32)), (.ref b1)])) _
    refine XS.iushr X3.here hx rfl (hb hby d_method_3_code_23) rfl ?_
    show Steps p.tables e below (T3.setTop (mkF m 24 #[.val (.int p1), .val (.int p2), .val (.ref b1)] [(.int ((p1.toUInt32 >>> ((8 : Int32) &&& 31).toUInt32).toInt32)), (.int (1 : Int32)), (.ref b1)])) _
    refine XS.i2b X3.here hx rfl (hb hby d_method_3_code_24) rfl ?_
    show Steps p.tables e below (T3.setTop (mkF m 25 #[.val (.int p1), .val (.int p2), .val (.ref b1)] [(.int (own_by p1 (8 : Int32))), (.int (1 : Int32)), (.ref b1)])) _
    refine st5 _ ?_
    show Steps p.tables e below (T5.setTop (mkF m 26 #[.val (.int p1), .val (.int p2), .val (.ref b1)] [])) _
    refine XS.iloadN X5.here hx rfl (hb hby d_method_3_code_26) rfl ?_
    show Steps p.tables e below (T5.setTop (mkF m 27 #[.val (.int p1), .val (.int p2), .val (.ref b1)] [(.int p2)])) _
    refine XS.iconst X5.here hx rfl (hb hby d_method_3_code_27) ?_
    show Steps p.tables e below (T5.setTop (mkF m 28 #[.val (.int p1), .val (.int p2), .val (.ref b1)] [(.int (2 : Int32)), (.int p2)])) _
    refine XS.icmpYes X5.here hx rfl (pc0 := 28) (pc' := 39) rfl (hb hby d_method_3_code_28) rfl (flt hc28).2.2.2 (by decide) (by decide) ?_
    show Steps p.tables e below (T5.setTop (mkF m 39 #[.val (.int p1), .val (.int p2), .val (.ref b1)] [])) _
    refine XS.iloadN X5.here hx rfl (hb hby d_method_3_code_39) rfl ?_
    show Steps p.tables e below (T5.setTop (mkF m 40 #[.val (.int p1), .val (.int p2), .val (.ref b1)] [(.int p2)])) _
    refine XS.iconst X5.here hx rfl (hb hby d_method_3_code_40) ?_
    show Steps p.tables e below (T5.setTop (mkF m 41 #[.val (.int p1), .val (.int p2), .val (.ref b1)] [(.int (3 : Int32)), (.int p2)])) _
    refine XS.icmpYes X5.here hx rfl (pc0 := 41) (pc' := 52) rfl (hb hby d_method_3_code_41) rfl (flt hc41).2.2.2 (by decide) (by decide) ?_
    show Steps p.tables e below (T5.setTop (mkF m 52 #[.val (.int p1), .val (.int p2), .val (.ref b1)] [])) _
    refine XS.aloadN X5.here hx rfl (hb hby d_method_3_code_52) rfl rfl ?_
    show Steps p.tables e below (T5.setTop (mkF m 53 #[.val (.int p1), .val (.int p2), .val (.ref b1)] [(.ref b1)])) _
    exact X5.areturnOut hx rfl Bd.returns rfl (hb hby d_method_3_code_53) hr
  · show Q_rmMk Z p1 p2 h0 n0 _ T5.heap _
    rw [e5]
    exact ⟨b1, k1, rfl, N5, Q5, g_b1, sz_b1, (own_conv V5 rfl (own_mk2 p1 p2 hn.1 hc5 hc15 hc28 hc41)), ((EX1.wr W3).wr W5)⟩
set_option maxRecDepth 65536 in
set_option maxHeartbeats 40000000 in
theorem rmMk_tfff (l : Launch) (Z : State) (a0 : Array Value) (hw : ∀ d ∈ tables_1, d.before a0 Z = true) (ws : List Jvm.Cond) (p1 : Int32) (p2 : Int32) (h0 : Heap) (n0 : Nat) (Z0 : n0 ≤ h0.size) (hn : own_B p2 4) (hc5 : (0 : Int32) < p2) (hc15 : ¬ ((1 : Int32) < p2)) (hc28 : ¬ ((2 : Int32) < p2)) (hc41 : ¬ ((3 : Int32) < p2)) :
    MetFree l (⟨"com/example/insistent_hook/insistenthook/store/KeysConcatPinLaw", "make", "(II)[B"⟩ : MethodName) (head1 (Jvm.Cond.code (⟨"com/example/insistent_hook/insistenthook/store/KeysConcatPinLaw", "make", "(II)[B"⟩ : MethodName) method_3_code 3 (some (.array .byte)) :: ws) ({ frames := 0, cells := 1, slots := 4, locals := 0 } : Room)) (fun a U => a = #[(.int p1), (.int p2)] ∧ Z.Warmed39 U.vm ∧ U.heap = h0) (fun _ _ _ _ _ => True) (fun _ U o U' => ∃ v L, o = .returned v ∧ Q_rmMk Z p1 p2 h0 n0 v U'.heap L ∧ FrameEnd U o U' L ({ frames := 0, cells := 1, slots := 4, locals := 0 } : Room).cells ({ frames := 0, cells := 1, slots := 4, locals := 0 } : Room).slots) := by
  refine MetFree.of_bodySF (plainFor_of_name pn_0) hisR ?_
  intro p e s m args below meth c s₁ Bd hml0 hP hK
  obtain ⟨rfl, hZ, hh⟩ := hP
  have hx := Bd.exec
  have hby := Bd.bytes
  have hml : c.maxLocals = 3 := hml0
  have hown : s.vm.findClass "com/example/insistent_hook/insistenthook/store/KeysConcatPinLaw" = some m.cls := findClass_of_methodNamed Bd.named
  have hnm := (name_of_methodNamed Bd.named Bd.method).1
  have X0 : Stand p l e ({ frames := 0, cells := 1, slots := 4, locals := 0 } : Room) s m #[(.int p1), (.int p2)] below meth c s₁ [] 0 0 := Stand.of_body Bd
  have e0 : s₁.heap = h0 := by rw [← hh, Bd.state]; rfl
  have N0 := Fr.nil n0
  have pre0 : ∀ t, Steps p.tables e below (s₁.setTop (mkF m 0 #[.val (.int p1), .val (.int p2), .unset] [])) t → Steps p.tables e below (s₁.setTop (entryFrame m #[(.int p1), (.int p2)] 3)) t := fun t k => castTop (ef_0 m p1 p2) k
  obtain ⟨T1, h1, k1, X1, e1, E1, A1, EX1, st1⟩ := newPE X0 hx hZ (hw _ (List.mem_of_getElem? (i := 4) rfl)) e0 (g := (mkF m 1 #[.val (.int p1), .val (.int p2), .unset] [(.int p2)])) rfl (hb hby d_method_3_code_1) rfl hn.1 (cap := 4) hn.2 (by decide) (by decide) (by decide) (ad := "[B") (by decide)
  obtain ⟨b1, gg1⟩ : ∃ z, z = h0.size := ⟨_, rfl⟩
  rw [← gg1] at A1 EX1 st1
  have g_b1 : n0 ≤ b1 := Nat.le_trans Z0 (Nat.le_of_eq gg1.symm)
  have sz_b1 : h0.size ≤ b1 := Nat.le_trans (Keep.refl h0 []).1 (Nat.le_of_eq gg1.symm)
  have Q1 : Keep h0 h1 [] := (Keep.refl h0 []).ext E1
  have V_b1 : Arv Z h1 b1 k1 .byte p2 [(.int (0 : Int32)), (.int (0 : Int32)), (.int (0 : Int32)), (.int (0 : Int32))] (.int (0 : Int32)) := (Arv.new A1 hn.1).pad (pad_rep [] (.int (0 : Int32)) 4)
  obtain ⟨cl2, Ar2, q2, S2, M2, H2, G2⟩ := id V_b1
  have hin2 : ¬ ((0 : Int32) < 0 ∨ cl2.slots.size ≤ ((0 : Int32)).toNatClampNeg) := inb_of S2 ⟨by decide, (hc5)⟩
  obtain ⟨T3, h3, X3, e3, W3, st3⟩ := stB X1 hx hZ e1 Ar2 (j := (0 : Int32)) hin2 (g := (mkF m 12 #[.val (.int p1), .val (.int p2), .val (.ref b1)] [(.int (own_by0 p1)), (.int (0 : Int32)), (.ref b1)])) rfl rfl (hb hby d_method_3_code_12)
  have V3 : Arv Z h3 b1 k1 .byte p2 [(.int ((own_by0 p1).toInt8.toInt32)), (.int (0 : Int32)), (.int (0 : Int32)), (.int (0 : Int32))] (.int (0 : Int32)) := Arv.set Ar2 q2 S2 M2 H2 G2 (fits_nar_byte _) W3 0 rfl (Nat.le_of_ble_eq_true rfl)
  have Q3 : Keep h0 h3 [] := Q1.wr W3 (Or.inr sz_b1)
  have N3 := Fr.snoc X3 N0 g_b1
  obtain ⟨fs, hr, hrun, hended, hW, hsame⟩ := X3.leave (v := some (.ref b1)) (fun h => by rw [Bd.returns] at h; cases h)
  refine ⟨_, _, pre0 _ ?_, hrun, hended, _, _, rfl, ?_, ⟨_, rfl⟩, hW, hsame.mono (by decide) (by decide)⟩
  · show Steps p.tables e below (s₁.setTop (mkF m 0 #[.val (.int p1), .val (.int p2), .unset] [])) _
    refine XS.iloadN X0.here hx rfl (hb hby d_method_3_code_0) rfl ?_
    show Steps p.tables e below (s₁.setTop (mkF m 1 #[.val (.int p1), .val (.int p2), .unset] [(.int p2)])) _
    refine st1 _ ?_
    show Steps p.tables e below (T1.setTop (mkF m 3 #[.val (.int p1), .val (.int p2), .unset] [(.ref b1)])) _
    refine XS.astoreN X1.here hx rfl (hb hby d_method_3_code_3) rfl rfl (l' := #[.val (.int p1), .val (.int p2), .val (.ref b1)]) rfl ?_
    show Steps p.tables e below (T1.setTop (mkF m 4 #[.val (.int p1), .val (.int p2), .val (.ref b1)] [])) _
    refine XS.iloadN X1.here hx rfl (hb hby d_method_3_code_4) rfl ?_
    show Steps p.tables e below (T1.setTop (mkF m 5 #[.val (.int p1), .val (.int p2), .val (.ref b1)] [(.int p2)])) _
    refine XS.ifNo X1.here hx rfl (hb hby d_method_3_code_5) rfl ((if0 _ _).trans (tlt hc5).2.2.2) ?_
    show Steps p.tables e below (T1.setTop (mkF m 8 #[.val (.int p1), .val (.int p2), .val (.ref b1)] [])) _
    refine XS.aloadN X1.here hx rfl (hb hby d_method_3_code_8) rfl rfl ?_
    show Steps p.tables e below (T1.setTop (mkF m 9 #[.val (.int p1), .val (.int p2), .val (.ref b1)] [(.ref b1)])) _
    refine XS.iconst X1.here hx rfl (hb hby d_method_3_code_9) ?_
    show Steps p.tables e below (T1.setTop (mkF m 10 #[.val (.int p1), .val (.int p2), .val (.ref b1)] [(.int (0 : Int32)), (.ref b1)])) _
    refine XS.iloadN X1.here hx rfl (hb hby d_method_3_code_10) rfl ?_
    show Steps p.tables e below (T1.setTop (mkF m 11 #[.val (.int p1), .val (.int p2), .val (.ref b1)] [(.int p1), (.int (0 : Int32)), (.ref b1)])) _
    refine XS.i2b X1.here hx rfl (hb hby d_method_3_code_11) rfl ?_
    show Steps p.tables e below (T1.setTop (mkF m 12 #[.val (.int p1), .val (.int p2), .val (.ref b1)] [(.int (own_by0 p1)), (.int (0 : Int32)), (.ref b1)])) _
    refine st3 _ ?_
    show Steps p.tables e below (T3.setTop (mkF m 13 #[.val (.int p1), .val (.int p2), .val (.ref b1)] [])) _
    refine XS.iloadN X3.here hx rfl (hb hby d_method_3_code_13) rfl ?_
    show Steps p.tables e below (T3.setTop (mkF m 14 #[.val (.int p1), .val (.int p2), .val (.ref b1)] [(.int p2)])) _
    refine XS.iconst X3.here hx rfl (hb hby d_method_3_code_14) ?_
    show Steps p.tables e below (T3.setTop (mkF m 15 #[.val (.int p1), .val (.int p2), .val (.ref b1)] [(.int (1 : Int32)), (.int p2)])) _
    refine XS.icmpYes X3.here hx rfl (pc0 := 15) (pc' := 26) rfl (hb hby d_method_3_code_15) rfl (flt hc15).2.2.2 (by decide) (by decide) ?_
    show Steps p.tables e below (T3.setTop (mkF m 26 #[.val (.int p1), .val (.int p2), .val (.ref b1)] [])) _
    refine XS.iloadN X3.here hx rfl (hb hby d_method_3_code_26) rfl ?_
    show Steps p.tables e below (T3.setTop (mkF m 27 #[.val (.int p1), .val (.int p2), .val (.ref b1)] [(.int p2)])) _
    refine XS.iconst X3.here hx rfl (hb hby d_method_3_code_27) ?_
    show Steps p.tables e below (T3.setTop (mkF m 28 #[.val (.int p1), .val (.int p2), .val (.ref b1)] [(.int (2 : Int32)), (.int p2)])) _
    refine XS.icmpYes X3.here hx rfl (pc0 := 28) (pc' := 39) rfl (hb hby d_method_3_code_28) rfl (flt hc28).2.2.2 (by decide) (by decide) ?_
    show Steps p.tables e below (T3.setTop (mkF m 39 #[.val (.int p1), .val (.int p2), .val (.ref b1)] [])) _
    refine XS.iloadN X3.here hx rfl (hb hby d_method_3_code_39) rfl ?_
    show Steps p.tables e below (T3.setTop (mkF m 40 #[.val (.int p1), .val (.int p2), .val (.ref b1)] [(.int p2)])) _
    refine XS.iconst X3.here hx rfl (hb hby d_method_3_code_40) ?_
    show Steps p.tables e below (T3.setTop (mkF m 41 #[.val (.int p1), .val (.int p2), .val (.ref b1)] [(.int (3 : Int32)), (.int p2)])) _
    refine XS.icmpYes X3.here hx rfl (pc0 := 41) (pc' := 52) rfl (hb hby d_method_3_code_41) rfl (flt hc41).2.2.2 (by decide) (by decide) ?_
    show Steps p.tables e below (T3.setTop (mkF m 52 #[.val (.int p1), .val (.int p2), .val (.ref b1)] [])) _
    refine XS.aloadN X3.here hx rfl (hb hby d_method_3_code_52) rfl rfl ?_
    show Steps p.tables e below (T3.setTop (mkF m 53 #[.val (.int p1), .val (.int p2), .val (.ref b1)] [(.ref b1)])) _
    exact X3.areturnOut hx rfl Bd.returns rfl (hb hby d_method_3_code_53) hr
  · show Q_rmMk Z p1 p2 h0 n0 _ T3.heap _
    rw [e3]
    exact ⟨b1, k1, rfl, N3, Q3, g_b1, sz_b1, (own_conv V3 rfl (own_mk1 p1 p2 hn.1 hc5 hc15 hc28 hc41)), (EX1.wr W3)⟩
set_option maxRecDepth 65536 in
set_option maxHeartbeats 40000000 in
theorem rmMk_ffff (l : Launch) (Z : State) (a0 : Array Value) (hw : ∀ d ∈ tables_1, d.before a0 Z = true) (ws : List Jvm.Cond) (p1 : Int32) (p2 : Int32) (h0 : Heap) (n0 : Nat) (Z0 : n0 ≤ h0.size) (hn : own_B p2 4) (hc5 : ¬ ((0 : Int32) < p2)) (hc15 : ¬ ((1 : Int32) < p2)) (hc28 : ¬ ((2 : Int32) < p2)) (hc41 : ¬ ((3 : Int32) < p2)) :
    MetFree l (⟨"com/example/insistent_hook/insistenthook/store/KeysConcatPinLaw", "make", "(II)[B"⟩ : MethodName) (head1 (Jvm.Cond.code (⟨"com/example/insistent_hook/insistenthook/store/KeysConcatPinLaw", "make", "(II)[B"⟩ : MethodName) method_3_code 3 (some (.array .byte)) :: ws) ({ frames := 0, cells := 1, slots := 4, locals := 0 } : Room)) (fun a U => a = #[(.int p1), (.int p2)] ∧ Z.Warmed39 U.vm ∧ U.heap = h0) (fun _ _ _ _ _ => True) (fun _ U o U' => ∃ v L, o = .returned v ∧ Q_rmMk Z p1 p2 h0 n0 v U'.heap L ∧ FrameEnd U o U' L ({ frames := 0, cells := 1, slots := 4, locals := 0 } : Room).cells ({ frames := 0, cells := 1, slots := 4, locals := 0 } : Room).slots) := by
  refine MetFree.of_bodySF (plainFor_of_name pn_0) hisR ?_
  intro p e s m args below meth c s₁ Bd hml0 hP hK
  obtain ⟨rfl, hZ, hh⟩ := hP
  have hx := Bd.exec
  have hby := Bd.bytes
  have hml : c.maxLocals = 3 := hml0
  have hown : s.vm.findClass "com/example/insistent_hook/insistenthook/store/KeysConcatPinLaw" = some m.cls := findClass_of_methodNamed Bd.named
  have hnm := (name_of_methodNamed Bd.named Bd.method).1
  have X0 : Stand p l e ({ frames := 0, cells := 1, slots := 4, locals := 0 } : Room) s m #[(.int p1), (.int p2)] below meth c s₁ [] 0 0 := Stand.of_body Bd
  have e0 : s₁.heap = h0 := by rw [← hh, Bd.state]; rfl
  have N0 := Fr.nil n0
  have pre0 : ∀ t, Steps p.tables e below (s₁.setTop (mkF m 0 #[.val (.int p1), .val (.int p2), .unset] [])) t → Steps p.tables e below (s₁.setTop (entryFrame m #[(.int p1), (.int p2)] 3)) t := fun t k => castTop (ef_0 m p1 p2) k
  obtain ⟨T1, h1, k1, X1, e1, E1, A1, EX1, st1⟩ := newPE X0 hx hZ (hw _ (List.mem_of_getElem? (i := 4) rfl)) e0 (g := (mkF m 1 #[.val (.int p1), .val (.int p2), .unset] [(.int p2)])) rfl (hb hby d_method_3_code_1) rfl hn.1 (cap := 4) hn.2 (by decide) (by decide) (by decide) (ad := "[B") (by decide)
  obtain ⟨b1, gg1⟩ : ∃ z, z = h0.size := ⟨_, rfl⟩
  rw [← gg1] at A1 EX1 st1
  have g_b1 : n0 ≤ b1 := Nat.le_trans Z0 (Nat.le_of_eq gg1.symm)
  have sz_b1 : h0.size ≤ b1 := Nat.le_trans (Keep.refl h0 []).1 (Nat.le_of_eq gg1.symm)
  have Q1 : Keep h0 h1 [] := (Keep.refl h0 []).ext E1
  have V_b1 : Arv Z h1 b1 k1 .byte p2 [(.int (0 : Int32)), (.int (0 : Int32)), (.int (0 : Int32)), (.int (0 : Int32))] (.int (0 : Int32)) := (Arv.new A1 hn.1).pad (pad_rep [] (.int (0 : Int32)) 4)
  obtain ⟨fs, hr, hrun, hended, hW, hsame⟩ := X1.leave (v := some (.ref b1)) (fun h => by rw [Bd.returns] at h; cases h)
  refine ⟨_, _, pre0 _ ?_, hrun, hended, _, _, rfl, ?_, ⟨_, rfl⟩, hW, hsame.mono (by decide) (by decide)⟩
  · show Steps p.tables e below (s₁.setTop (mkF m 0 #[.val (.int p1), .val (.int p2), .unset] [])) _
    refine XS.iloadN X0.here hx rfl (hb hby d_method_3_code_0) rfl ?_
    show Steps p.tables e below (s₁.setTop (mkF m 1 #[.val (.int p1), .val (.int p2), .unset] [(.int p2)])) _
    refine st1 _ ?_
    show Steps p.tables e below (T1.setTop (mkF m 3 #[.val (.int p1), .val (.int p2), .unset] [(.ref b1)])) _
    refine XS.astoreN X1.here hx rfl (hb hby d_method_3_code_3) rfl rfl (l' := #[.val (.int p1), .val (.int p2), .val (.ref b1)]) rfl ?_
    show Steps p.tables e below (T1.setTop (mkF m 4 #[.val (.int p1), .val (.int p2), .val (.ref b1)] [])) _
    refine XS.iloadN X1.here hx rfl (hb hby d_method_3_code_4) rfl ?_
    show Steps p.tables e below (T1.setTop (mkF m 5 #[.val (.int p1), .val (.int p2), .val (.ref b1)] [(.int p2)])) _
    refine XS.ifYes X1.here hx rfl (pc0 := 5) (pc' := 13) rfl (hb hby d_method_3_code_5) rfl ((if0 _ _).trans (flt hc5).2.2.2) (by decide) (by decide) ?_
    show Steps p.tables e below (T1.setTop (mkF m 13 #[.val (.int p1), .val (.int p2), .val (.ref b1)] [])) _
    refine XS.iloadN X1.here hx rfl (hb hby d_method_3_code_13) rfl ?_
    show Steps p.tables e below (T1.setTop (mkF m 14 #[.val (.int p1), .val (.int p2), .val (.ref b1)] [(.int p2)])) _
    refine XS.iconst X1.here hx rfl (hb hby d_method_3_code_14) ?_
    show Steps p.tables e below (T1.setTop (mkF m 15 #[.val (.int p1), .val (.int p2), .val (.ref b1)] [(.int (1 : Int32)), (.int p2)])) _
    refine XS.icmpYes X1.here hx rfl (pc0 := 15) (pc' := 26) rfl (hb hby d_method_3_code_15) rfl (flt hc15).2.2.2 (by decide) (by decide) ?_
    show Steps p.tables e below (T1.setTop (mkF m 26 #[.val (.int p1), .val (.int p2), .val (.ref b1)] [])) _
    refine XS.iloadN X1.here hx rfl (hb hby d_method_3_code_26) rfl ?_
    show Steps p.tables e below (T1.setTop (mkF m 27 #[.val (.int p1), .val (.int p2), .val (.ref b1)] [(.int p2)])) _
    refine XS.iconst X1.here hx rfl (hb hby d_method_3_code_27) ?_
    show Steps p.tables e below (T1.setTop (mkF m 28 #[.val (.int p1), .val (.int p2), .val (.ref b1)] [(.int (2 : Int32)), (.int p2)])) _
    refine XS.icmpYes X1.here hx rfl (pc0 := 28) (pc' := 39) rfl (hb hby d_method_3_code_28) rfl (flt hc28).2.2.2 (by decide) (by decide) ?_
    show Steps p.tables e below (T1.setTop (mkF m 39 #[.val (.int p1), .val (.int p2), .val (.ref b1)] [])) _
    refine XS.iloadN X1.here hx rfl (hb hby d_method_3_code_39) rfl ?_
    show Steps p.tables e below (T1.setTop (mkF m 40 #[.val (.int p1), .val (.int p2), .val (.ref b1)] [(.int p2)])) _
    refine XS.iconst X1.here hx rfl (hb hby d_method_3_code_40) ?_
    show Steps p.tables e below (T1.setTop (mkF m 41 #[.val (.int p1), .val (.int p2), .val (.ref b1)] [(.int (3 : Int32)), (.int p2)])) _
    refine XS.icmpYes X1.here hx rfl (pc0 := 41) (pc' := 52) rfl (hb hby d_method_3_code_41) rfl (flt hc41).2.2.2 (by decide) (by decide) ?_
    show Steps p.tables e below (T1.setTop (mkF m 52 #[.val (.int p1), .val (.int p2), .val (.ref b1)] [])) _
    refine XS.aloadN X1.here hx rfl (hb hby d_method_3_code_52) rfl rfl ?_
    show Steps p.tables e below (T1.setTop (mkF m 53 #[.val (.int p1), .val (.int p2), .val (.ref b1)] [(.ref b1)])) _
    exact X1.areturnOut hx rfl Bd.returns rfl (hb hby d_method_3_code_53) hr
  · show Q_rmMk Z p1 p2 h0 n0 _ T1.heap _
    rw [e1]
    exact ⟨b1, k1, rfl, N0, Q1, g_b1, sz_b1, (own_conv V_b1 rfl (own_mk0 p1 p2 hn.1 hc5 hc15 hc28 hc41)), EX1⟩
theorem rmMk (l : Launch) (Z : State) (a0 : Array Value) (hw : ∀ d ∈ tables_1, d.before a0 Z = true) (ws : List Jvm.Cond) (p1 : Int32) (p2 : Int32) (h0 : Heap) (n0 : Nat) (Z0 : n0 ≤ h0.size) (hn : own_B p2 4) :
    MetFree l (⟨"com/example/insistent_hook/insistenthook/store/KeysConcatPinLaw", "make", "(II)[B"⟩ : MethodName) (head1 (Jvm.Cond.code (⟨"com/example/insistent_hook/insistenthook/store/KeysConcatPinLaw", "make", "(II)[B"⟩ : MethodName) method_3_code 3 (some (.array .byte)) :: ws) ({ frames := 0, cells := 1, slots := 4, locals := 0 } : Room)) (fun a U => a = #[(.int p1), (.int p2)] ∧ Z.Warmed39 U.vm ∧ U.heap = h0) (fun _ _ _ _ _ => True) (fun _ U o U' => ∃ v L, o = .returned v ∧ Q_rmMk Z p1 p2 h0 n0 v U'.heap L ∧ FrameEnd U o U' L ({ frames := 0, cells := 1, slots := 4, locals := 0 } : Room).cells ({ frames := 0, cells := 1, slots := 4, locals := 0 } : Room).slots) := by
  by_cases hc5 : (0 : Int32) < p2
  · skip
    by_cases hc15 : (1 : Int32) < p2
    · skip
      by_cases hc28 : (2 : Int32) < p2
      · skip
        by_cases hc41 : (3 : Int32) < p2
        · skip
          exact rmMk_tttt l Z a0 hw ws p1 p2 h0 n0 Z0 hn hc5 hc15 hc28 hc41
        · skip
          exact rmMk_tttf l Z a0 hw ws p1 p2 h0 n0 Z0 hn hc5 hc15 hc28 hc41
      · skip
        by_cases hc41 : (3 : Int32) < p2
        · skip
          exfalso
          exact hc28 (Int32.lt_trans (by decide) hc41)
        · skip
          exact rmMk_ttff l Z a0 hw ws p1 p2 h0 n0 Z0 hn hc5 hc15 hc28 hc41
    · skip
      by_cases hc28 : (2 : Int32) < p2
      · skip
        exfalso
        exact hc15 (Int32.lt_trans (by decide) hc28)
      · skip
        by_cases hc41 : (3 : Int32) < p2
        · skip
          exfalso
          exact hc28 (Int32.lt_trans (by decide) hc41)
        · skip
          exact rmMk_tfff l Z a0 hw ws p1 p2 h0 n0 Z0 hn hc5 hc15 hc28 hc41
  · skip
    by_cases hc15 : (1 : Int32) < p2
    · skip
      exfalso
      exact hc5 (Int32.lt_trans (by decide) hc15)
    · skip
      by_cases hc28 : (2 : Int32) < p2
      · skip
        exfalso
        exact hc15 (Int32.lt_trans (by decide) hc28)
      · skip
        by_cases hc41 : (3 : Int32) < p2
        · skip
          exfalso
          exact hc28 (Int32.lt_trans (by decide) hc41)
        · skip
          exact rmMk_ffff l Z a0 hw ws p1 p2 h0 n0 Z0 hn hc5 hc15 hc28 hc41
theorem d_jdk_29_method_69_code_0 : decode jdk_29_method_69_code 0 = .ok (.iload_n 0, 1) := by decide +kernel
theorem d_jdk_29_method_69_code_1 : decode jdk_29_method_69_code 1 = .ok (.iload_n 1, 1) := by decide +kernel
theorem d_jdk_29_method_69_code_2 : decode jdk_29_method_69_code 2 = .ok (.if_icmp .gt 7, 3) := by decide +kernel
theorem d_jdk_29_method_69_code_9 : decode jdk_29_method_69_code 9 = .ok (.iload_n 1, 1) := by decide +kernel
theorem d_jdk_29_method_69_code_10 : decode jdk_29_method_69_code 10 = .ok (.ireturn, 1) := by decide +kernel
theorem d_jdk_29_method_69_code_5 : decode jdk_29_method_69_code 5 = .ok (.iload_n 0, 1) := by decide +kernel
theorem d_jdk_29_method_69_code_6 : decode jdk_29_method_69_code 6 = .ok (.goto 4, 3) := by decide +kernel
def Q_rmM (Z : State) (p1 : Int32) (p2 : Int32) (h0 : Heap) (n0 : Nat) (v : Option Value) (h : Heap) (L : List Loc) : Prop := v = some (.int (own_minI p1 p2)) ∧ Fr n0 L ∧ h = h0
theorem ef_1 (m : MethodId) (x0 : Int32) (x1 : Int32) : entryFrame m #[(.int x0), (.int x1)] 2 = mkF m 0 #[.val (.int x0), .val (.int x1)] [] := by first | (simp [entryFrame, mkF, argsToLocals, Value.category]; done) | rfl
set_option maxRecDepth 65536 in
set_option maxHeartbeats 40000000 in
theorem rmM_t (l : Launch) (Z : State) (a0 : Array Value) (hw : ∀ d ∈ tables_1, d.before a0 Z = true) (ws : List Jvm.Cond) (p1 : Int32) (p2 : Int32) (h0 : Heap) (n0 : Nat) (Z0 : n0 ≤ h0.size) (hc2 : p2 < p1) (hres : (own_minI p1 p2) = p2) :
    MetFree l (⟨"java/lang/Math", "min", "(II)I"⟩ : MethodName) (head1 (Jvm.Cond.code (⟨"java/lang/Math", "min", "(II)I"⟩ : MethodName) jdk_29_method_69_code 2 (some .int) :: ws) ({ frames := 0, cells := 0, slots := 0, locals := 0 } : Room)) (fun a U => a = #[(.int p1), (.int p2)] ∧ Z.Warmed39 U.vm ∧ U.heap = h0) (fun _ _ _ _ _ => True) (fun _ U o U' => ∃ v L, o = .returned v ∧ Q_rmM Z p1 p2 h0 n0 v U'.heap L ∧ FrameEnd U o U' L ({ frames := 0, cells := 0, slots := 0, locals := 0 } : Room).cells ({ frames := 0, cells := 0, slots := 0, locals := 0 } : Room).slots) := by
  refine MetFree.of_bodySF (Jvm.Free.JP.mathPlain rfl (by decide +kernel)) hisR ?_
  intro p e s m args below meth c s₁ Bd hml0 hP hK
  obtain ⟨rfl, hZ, hh⟩ := hP
  have hx := Bd.exec
  have hby := Bd.bytes
  have hml : c.maxLocals = 2 := hml0
  have hown : s.vm.findClass "java/lang/Math" = some m.cls := findClass_of_methodNamed Bd.named
  have hnm := (name_of_methodNamed Bd.named Bd.method).1
  have X0 : Stand p l e ({ frames := 0, cells := 0, slots := 0, locals := 0 } : Room) s m #[(.int p1), (.int p2)] below meth c s₁ [] 0 0 := Stand.of_body Bd
  have e0 : s₁.heap = h0 := by rw [← hh, Bd.state]; rfl
  have N0 := Fr.nil n0
  have pre0 : ∀ t, Steps p.tables e below (s₁.setTop (mkF m 0 #[.val (.int p1), .val (.int p2)] [])) t → Steps p.tables e below (s₁.setTop (entryFrame m #[(.int p1), (.int p2)] 2)) t := fun t k => castTop (ef_1 m p1 p2) k
  obtain ⟨fs, hr, hrun, hended, hW, hsame⟩ := X0.leave (v := some (.int p2)) (fun h => by rw [Bd.returns] at h; cases h)
  refine ⟨_, _, pre0 _ ?_, hrun, hended, _, _, rfl, ?_, ⟨_, rfl⟩, hW, hsame.mono (by decide) (by decide)⟩
  · show Steps p.tables e below (s₁.setTop (mkF m 0 #[.val (.int p1), .val (.int p2)] [])) _
    refine XS.iloadN X0.here hx rfl (hb hby d_jdk_29_method_69_code_0) rfl ?_
    show Steps p.tables e below (s₁.setTop (mkF m 1 #[.val (.int p1), .val (.int p2)] [(.int p1)])) _
    refine XS.iloadN X0.here hx rfl (hb hby d_jdk_29_method_69_code_1) rfl ?_
    show Steps p.tables e below (s₁.setTop (mkF m 2 #[.val (.int p1), .val (.int p2)] [(.int p2), (.int p1)])) _
    refine XS.icmpYes X0.here hx rfl (pc0 := 2) (pc' := 9) rfl (hb hby d_jdk_29_method_69_code_2) rfl (tlt hc2).2.2.1 (by decide) (by decide) ?_
    show Steps p.tables e below (s₁.setTop (mkF m 9 #[.val (.int p1), .val (.int p2)] [])) _
    refine XS.iloadN X0.here hx rfl (hb hby d_jdk_29_method_69_code_9) rfl ?_
    show Steps p.tables e below (s₁.setTop (mkF m 10 #[.val (.int p1), .val (.int p2)] [(.int p2)])) _
    exact retI X0 hx Bd.returns (hb hby d_jdk_29_method_69_code_10) hr
  · show Q_rmM Z p1 p2 h0 n0 _ s₁.heap _
    rw [e0]
    exact ⟨by rw [hres], N0, rfl⟩
set_option maxRecDepth 65536 in
set_option maxHeartbeats 40000000 in
theorem rmM_f (l : Launch) (Z : State) (a0 : Array Value) (hw : ∀ d ∈ tables_1, d.before a0 Z = true) (ws : List Jvm.Cond) (p1 : Int32) (p2 : Int32) (h0 : Heap) (n0 : Nat) (Z0 : n0 ≤ h0.size) (hc2 : ¬ (p2 < p1)) (hres : (own_minI p1 p2) = p1) :
    MetFree l (⟨"java/lang/Math", "min", "(II)I"⟩ : MethodName) (head1 (Jvm.Cond.code (⟨"java/lang/Math", "min", "(II)I"⟩ : MethodName) jdk_29_method_69_code 2 (some .int) :: ws) ({ frames := 0, cells := 0, slots := 0, locals := 0 } : Room)) (fun a U => a = #[(.int p1), (.int p2)] ∧ Z.Warmed39 U.vm ∧ U.heap = h0) (fun _ _ _ _ _ => True) (fun _ U o U' => ∃ v L, o = .returned v ∧ Q_rmM Z p1 p2 h0 n0 v U'.heap L ∧ FrameEnd U o U' L ({ frames := 0, cells := 0, slots := 0, locals := 0 } : Room).cells ({ frames := 0, cells := 0, slots := 0, locals := 0 } : Room).slots) := by
  refine MetFree.of_bodySF (Jvm.Free.JP.mathPlain rfl (by decide +kernel)) hisR ?_
  intro p e s m args below meth c s₁ Bd hml0 hP hK
  obtain ⟨rfl, hZ, hh⟩ := hP
  have hx := Bd.exec
  have hby := Bd.bytes
  have hml : c.maxLocals = 2 := hml0
  have hown : s.vm.findClass "java/lang/Math" = some m.cls := findClass_of_methodNamed Bd.named
  have hnm := (name_of_methodNamed Bd.named Bd.method).1
  have X0 : Stand p l e ({ frames := 0, cells := 0, slots := 0, locals := 0 } : Room) s m #[(.int p1), (.int p2)] below meth c s₁ [] 0 0 := Stand.of_body Bd
  have e0 : s₁.heap = h0 := by rw [← hh, Bd.state]; rfl
  have N0 := Fr.nil n0
  have pre0 : ∀ t, Steps p.tables e below (s₁.setTop (mkF m 0 #[.val (.int p1), .val (.int p2)] [])) t → Steps p.tables e below (s₁.setTop (entryFrame m #[(.int p1), (.int p2)] 2)) t := fun t k => castTop (ef_1 m p1 p2) k
  obtain ⟨fs, hr, hrun, hended, hW, hsame⟩ := X0.leave (v := some (.int p1)) (fun h => by rw [Bd.returns] at h; cases h)
  refine ⟨_, _, pre0 _ ?_, hrun, hended, _, _, rfl, ?_, ⟨_, rfl⟩, hW, hsame.mono (by decide) (by decide)⟩
  · show Steps p.tables e below (s₁.setTop (mkF m 0 #[.val (.int p1), .val (.int p2)] [])) _
    refine XS.iloadN X0.here hx rfl (hb hby d_jdk_29_method_69_code_0) rfl ?_
    show Steps p.tables e below (s₁.setTop (mkF m 1 #[.val (.int p1), .val (.int p2)] [(.int p1)])) _
    refine XS.iloadN X0.here hx rfl (hb hby d_jdk_29_method_69_code_1) rfl ?_
    show Steps p.tables e below (s₁.setTop (mkF m 2 #[.val (.int p1), .val (.int p2)] [(.int p2), (.int p1)])) _
    refine XS.icmpNo X0.here hx rfl (hb hby d_jdk_29_method_69_code_2) rfl (flt hc2).2.2.1 ?_
    show Steps p.tables e below (s₁.setTop (mkF m 5 #[.val (.int p1), .val (.int p2)] [])) _
    refine XS.iloadN X0.here hx rfl (hb hby d_jdk_29_method_69_code_5) rfl ?_
    show Steps p.tables e below (s₁.setTop (mkF m 6 #[.val (.int p1), .val (.int p2)] [(.int p1)])) _
    refine XS.goto X0.here hx rfl (pc0 := 6) (pc' := 10) rfl (hb hby d_jdk_29_method_69_code_6) (by decide) (by decide) ?_
    show Steps p.tables e below (s₁.setTop (mkF m 10 #[.val (.int p1), .val (.int p2)] [(.int p1)])) _
    exact retI X0 hx Bd.returns (hb hby d_jdk_29_method_69_code_10) hr
  · show Q_rmM Z p1 p2 h0 n0 _ s₁.heap _
    rw [e0]
    exact ⟨by rw [hres], N0, rfl⟩
theorem rmM (l : Launch) (Z : State) (a0 : Array Value) (hw : ∀ d ∈ tables_1, d.before a0 Z = true) (ws : List Jvm.Cond) (p1 : Int32) (p2 : Int32) (h0 : Heap) (n0 : Nat) (Z0 : n0 ≤ h0.size) :
    MetFree l (⟨"java/lang/Math", "min", "(II)I"⟩ : MethodName) (head1 (Jvm.Cond.code (⟨"java/lang/Math", "min", "(II)I"⟩ : MethodName) jdk_29_method_69_code 2 (some .int) :: ws) ({ frames := 0, cells := 0, slots := 0, locals := 0 } : Room)) (fun a U => a = #[(.int p1), (.int p2)] ∧ Z.Warmed39 U.vm ∧ U.heap = h0) (fun _ _ _ _ _ => True) (fun _ U o U' => ∃ v L, o = .returned v ∧ Q_rmM Z p1 p2 h0 n0 v U'.heap L ∧ FrameEnd U o U' L ({ frames := 0, cells := 0, slots := 0, locals := 0 } : Room).cells ({ frames := 0, cells := 0, slots := 0, locals := 0 } : Room).slots) := by
  by_cases hc2 : p2 < p1
  · skip
    exact rmM_t l Z a0 hw ws p1 p2 h0 n0 Z0 hc2 (by simp only [own_minI, if_pos hc2])
  · skip
    exact rmM_f l Z a0 hw ws p1 p2 h0 n0 Z0 hc2 (by simp only [own_minI, if_neg hc2])
theorem d_jdk_65_method_121_code_0 : decode jdk_65_method_121_code 0 = .ok (.iload_n 1, 1) := by decide +kernel
theorem d_jdk_65_method_121_code_1 : decode jdk_65_method_121_code 1 = .ok (.aload_n 0, 1) := by decide +kernel
theorem d_jdk_65_method_121_code_2 : decode jdk_65_method_121_code 2 = .ok (.arraylength, 1) := by decide +kernel
theorem d_jdk_65_method_121_code_3 : decode jdk_65_method_121_code 3 = .ok (.if_icmp .ne 11, 3) := by decide +kernel
theorem d_jdk_65_method_121_code_6 : decode jdk_65_method_121_code 6 = .ok (.aload_n 0, 1) := by decide +kernel
theorem d_jdk_65_method_121_code_7 : decode jdk_65_method_121_code 7 = .ok (.invokevirtual 310, 3) := by decide +kernel
theorem d_jdk_65_method_121_code_10 : decode jdk_65_method_121_code 10 = .ok (.checkcast 311, 3) := by decide +kernel
theorem d_jdk_65_method_121_code_13 : decode jdk_65_method_121_code 13 = .ok (.areturn, 1) := by decide +kernel
theorem d_jdk_65_method_121_code_14 : decode jdk_65_method_121_code 14 = .ok (.iload_n 1, 1) := by decide +kernel
theorem d_jdk_65_method_121_code_15 : decode jdk_65_method_121_code 15 = .ok (.newarray .byte, 2) := by decide +kernel
theorem d_jdk_65_method_121_code_17 : decode jdk_65_method_121_code 17 = .ok (.astore_n 2, 1) := by decide +kernel
theorem d_jdk_65_method_121_code_18 : decode jdk_65_method_121_code 18 = .ok (.aload_n 0, 1) := by decide +kernel
theorem d_jdk_65_method_121_code_19 : decode jdk_65_method_121_code 19 = .ok (.iconst 0, 1) := by decide +kernel
theorem d_jdk_65_method_121_code_20 : decode jdk_65_method_121_code 20 = .ok (.aload_n 2, 1) := by decide +kernel
theorem d_jdk_65_method_121_code_21 : decode jdk_65_method_121_code 21 = .ok (.iconst 0, 1) := by decide +kernel
theorem d_jdk_65_method_121_code_22 : decode jdk_65_method_121_code 22 = .ok (.aload_n 0, 1) := by decide +kernel
theorem d_jdk_65_method_121_code_23 : decode jdk_65_method_121_code 23 = .ok (.arraylength, 1) := by decide +kernel
theorem d_jdk_65_method_121_code_24 : decode jdk_65_method_121_code 24 = .ok (.iload_n 1, 1) := by decide +kernel
theorem d_jdk_65_method_121_code_25 : decode jdk_65_method_121_code 25 = .ok (.invokestatic 304, 3) := by decide +kernel
theorem pd_0 : parseMethodDescriptor "(II)I" = some ⟨[.int, .int], some .int⟩ := by decide +kernel
theorem d_jdk_65_method_121_code_28 : decode jdk_65_method_121_code 28 = .ok (.invokestatic 150, 3) := by decide +kernel
theorem d_jdk_65_method_121_code_31 : decode jdk_65_method_121_code 31 = .ok (.aload_n 2, 1) := by decide +kernel
theorem d_jdk_65_method_121_code_32 : decode jdk_65_method_121_code 32 = .ok (.areturn, 1) := by decide +kernel
def Q_rmCp (Z : State) (a1 : Addr) (p2 : Int32) (k1 : ClassId) (n1 : Int32) (L1 : List Value) (h0 : Heap) (n0 : Nat) (v : Option Value) (h : Heap) (L : List Loc) : Prop := ∃ (b : Addr) (k : ClassId), v = some (.ref b) ∧ Fr n0 L ∧ Keep h0 h [] ∧ n0 ≤ b ∧ h0.size ≤ b ∧ Arv Z h b k .byte p2 (own_cpy n1 L1) (.int (0 : Int32)) ∧ Exa Z h b "[B"
theorem pn_1 : plainName "java/util/Arrays" = true := by first | (simp [plainName, overriddenIn]; done) | decide +kernel
theorem ef_2 (m : MethodId) (x0 : Addr) (x1 : Int32) : entryFrame m #[(.ref x0), (.int x1)] 3 = mkF m 0 #[.val (.ref x0), .val (.int x1), .unset] [] := by first | (simp [entryFrame, mkF, argsToLocals, Value.category]; done) | rfl
set_option maxRecDepth 65536 in
set_option maxHeartbeats 40000000 in
theorem rmCp_t (l : Launch) (Z : State) (a0 : Array Value) (hw : ∀ d ∈ tables_1, d.before a0 Z = true) (ws : List Jvm.Cond) (a1 : Addr) (p2 : Int32) (k1 : ClassId) (n1 : Int32) (L1 : List Value) (h0 : Heap) (n0 : Nat) (Z0 : n0 ≤ h0.size) (V_a1 : Arv Z h0 a1 k1 .byte n1 L1 (.int (0 : Int32))) (E_a1 : Exa Z h0 a1 "[B") (hb1 : own_B n1 4) (hb2 : own_B p2 8) (hle : n1.toNatClampNeg ≤ p2.toNatClampNeg) (hc3 : p2 = n1) :
    MetFree l (⟨"java/util/Arrays", "copyOf", "([BI)[B"⟩ : MethodName) (head1 (Jvm.Cond.code (⟨"java/util/Arrays", "copyOf", "([BI)[B"⟩ : MethodName) jdk_65_method_121_code 3 (some (.array .byte)) :: ws) ({ frames := 1, cells := 1, slots := 8, locals := 18 } : Room)) (fun a U => a = #[(.ref a1), (.int p2)] ∧ Z.Warmed39 U.vm ∧ U.heap = h0) (fun _ _ _ _ _ => True) (fun _ U o U' => ∃ v L, o = .returned v ∧ Q_rmCp Z a1 p2 k1 n1 L1 h0 n0 v U'.heap L ∧ FrameEnd U o U' L ({ frames := 1, cells := 1, slots := 8, locals := 18 } : Room).cells ({ frames := 1, cells := 1, slots := 8, locals := 18 } : Room).slots) := by
  refine MetFree.of_bodySF (plainFor_of_name pn_1) hisR ?_
  intro p e s m args below meth c s₁ Bd hml0 hP hK
  obtain ⟨rfl, hZ, hh⟩ := hP
  have hx := Bd.exec
  have hby := Bd.bytes
  have hml : c.maxLocals = 3 := hml0
  have hown : s.vm.findClass "java/util/Arrays" = some m.cls := findClass_of_methodNamed Bd.named
  have hnm := (name_of_methodNamed Bd.named Bd.method).1
  have X0 : Stand p l e ({ frames := 1, cells := 1, slots := 8, locals := 18 } : Room) s m #[(.ref a1), (.int p2)] below meth c s₁ [] 0 0 := Stand.of_body Bd
  have e0 : s₁.heap = h0 := by rw [← hh, Bd.state]; rfl
  have N0 := Fr.nil n0
  have pre0 : ∀ t, Steps p.tables e below (s₁.setTop (mkF m 0 #[.val (.ref a1), .val (.int p2), .unset] [])) t → Steps p.tables e below (s₁.setTop (entryFrame m #[(.ref a1), (.int p2)] 3)) t := fun t k => castTop (ef_2 m a1 p2) k
  obtain ⟨cl1, Ar1, q1, S1, M1, H1, G1⟩ := id V_a1
  obtain ⟨T2, h2, X2, e2, E2, A2, EX2, st2⟩ := cloneH X0 hx hZ hown (hw _ (List.mem_of_getElem? (i := 13) rfl)) (hw _ (List.mem_of_getElem? (i := 14) rfl)) (hw _ (List.mem_of_getElem? (i := 18) rfl)) (hw _ (List.mem_of_getElem? (i := 16) rfl)) (hw _ (List.mem_of_getElem? (i := 17) rfl)) (hw _ (List.mem_of_getElem? (i := 19) rfl)) e0 (Arv.arh V_a1) E_a1 (g := (mkF m 7 #[.val (.ref a1), .val (.int p2), .unset] [(.ref a1)])) rfl (by rw [hml]; rfl) rfl (hb hby d_jdk_65_method_121_code_7) (by decide) (W := 0) (cap := 4) (by show 2 * 0 + _ ≤ _; exact Nat.le_of_eq rfl) (by decide) hb1.2 (by decide) (by decide)
  obtain ⟨b2, gg2⟩ : ∃ z, z = h0.size := ⟨_, rfl⟩
  rw [← gg2] at A2 EX2 st2
  have g_b2 : n0 ≤ b2 := Nat.le_trans Z0 (Nat.le_of_eq gg2.symm)
  have sz_b2 : h0.size ≤ b2 := Nat.le_trans (Keep.refl h0 []).1 (Nat.le_of_eq gg2.symm)
  have Q2 : Keep h0 h2 [] := (Keep.refl h0 []).ext E2
  have V_b2 : Arv Z h2 b2 k1 .byte n1 L1 (.int (0 : Int32)) := A2
  obtain ⟨T3, X3, e3, st3⟩ := castY X2 hx hZ hown (hw _ (List.mem_of_getElem? (i := 20) rfl)) e2 (Ins.self EX2) (g := (mkF m 10 #[.val (.ref a1), .val (.int p2), .unset] [(.ref b2)])) rfl rfl (hb hby d_jdk_65_method_121_code_10)
  obtain ⟨fs, hr, hrun, hended, hW, hsame⟩ := X3.leave (v := some (.ref b2)) (fun h => by rw [Bd.returns] at h; cases h)
  refine ⟨_, _, pre0 _ ?_, hrun, hended, _, _, rfl, ?_, ⟨_, rfl⟩, hW, hsame.mono (by decide) (by decide)⟩
  · show Steps p.tables e below (s₁.setTop (mkF m 0 #[.val (.ref a1), .val (.int p2), .unset] [])) _
    refine XS.iloadN X0.here hx rfl (hb hby d_jdk_65_method_121_code_0) rfl ?_
    show Steps p.tables e below (s₁.setTop (mkF m 1 #[.val (.ref a1), .val (.int p2), .unset] [(.int p2)])) _
    refine XS.aloadN X0.here hx rfl (hb hby d_jdk_65_method_121_code_1) rfl rfl ?_
    show Steps p.tables e below (s₁.setTop (mkF m 2 #[.val (.ref a1), .val (.int p2), .unset] [(.ref a1), (.int p2)])) _
    refine X0.arraylength hx (by rw [e0]; exact Ar1.1) (State.isArrayOf_alike hZ.alike Ar1.2.1) (g := (mkF m 2 #[.val (.ref a1), .val (.int p2), .unset] [(.ref a1), (.int p2)])) rfl rfl (hb hby d_jdk_65_method_121_code_2) _ ?_
    rw [len_of S1 M1]
    show Steps p.tables e below (s₁.setTop (mkF m 3 #[.val (.ref a1), .val (.int p2), .unset] [(.int n1), (.int p2)])) _
    refine XS.icmpNo X0.here hx rfl (hb hby d_jdk_65_method_121_code_3) rfl (teq hc3).2 ?_
    show Steps p.tables e below (s₁.setTop (mkF m 6 #[.val (.ref a1), .val (.int p2), .unset] [])) _
    refine XS.aloadN X0.here hx rfl (hb hby d_jdk_65_method_121_code_6) rfl rfl ?_
    show Steps p.tables e below (s₁.setTop (mkF m 7 #[.val (.ref a1), .val (.int p2), .unset] [(.ref a1)])) _
    refine st2 _ ?_
    show Steps p.tables e below (T2.setTop (mkF m 10 #[.val (.ref a1), .val (.int p2), .unset] [(.ref b2)])) _
    refine st3 _ ?_
    show Steps p.tables e below (T3.setTop (mkF m 13 #[.val (.ref a1), .val (.int p2), .unset] [(.ref b2)])) _
    exact X3.areturnOut hx rfl Bd.returns rfl (hb hby d_jdk_65_method_121_code_13) hr
  · show Q_rmCp Z a1 p2 k1 n1 L1 h0 n0 _ T3.heap _
    rw [e3]
    exact ⟨b2, k1, rfl, N0, Q2, g_b2, sz_b2, (own_conv V_b2 hc3 (own_cpA n1 L1 hb1)), EX2⟩
set_option maxRecDepth 65536 in
set_option maxHeartbeats 40000000 in
theorem rmCp_f (l : Launch) (Z : State) (a0 : Array Value) (hw : ∀ d ∈ tables_1, d.before a0 Z = true) (ws : List Jvm.Cond) (a1 : Addr) (p2 : Int32) (k1 : ClassId) (n1 : Int32) (L1 : List Value) (h0 : Heap) (n0 : Nat) (Z0 : n0 ≤ h0.size) (V_a1 : Arv Z h0 a1 k1 .byte n1 L1 (.int (0 : Int32))) (E_a1 : Exa Z h0 a1 "[B") (hb1 : own_B n1 4) (hb2 : own_B p2 8) (hle : n1.toNatClampNeg ≤ p2.toNatClampNeg) (hc3 : ¬ (p2 = n1)) :
    MetFree l (⟨"java/util/Arrays", "copyOf", "([BI)[B"⟩ : MethodName) (head1 (Jvm.Cond.code (⟨"java/util/Arrays", "copyOf", "([BI)[B"⟩ : MethodName) jdk_65_method_121_code 3 (some (.array .byte)) :: ws) ({ frames := 1, cells := 1, slots := 8, locals := 18 } : Room)) (fun a U => a = #[(.ref a1), (.int p2)] ∧ Z.Warmed39 U.vm ∧ U.heap = h0) (fun _ _ _ _ _ => True) (fun _ U o U' => ∃ v L, o = .returned v ∧ Q_rmCp Z a1 p2 k1 n1 L1 h0 n0 v U'.heap L ∧ FrameEnd U o U' L ({ frames := 1, cells := 1, slots := 8, locals := 18 } : Room).cells ({ frames := 1, cells := 1, slots := 8, locals := 18 } : Room).slots) := by
  refine MetFree.of_bodySF (plainFor_of_name pn_1) hisR ?_
  intro p e s m args below meth c s₁ Bd hml0 hP hK
  obtain ⟨rfl, hZ, hh⟩ := hP
  have hx := Bd.exec
  have hby := Bd.bytes
  have hml : c.maxLocals = 3 := hml0
  have hown : s.vm.findClass "java/util/Arrays" = some m.cls := findClass_of_methodNamed Bd.named
  have hnm := (name_of_methodNamed Bd.named Bd.method).1
  have X0 : Stand p l e ({ frames := 1, cells := 1, slots := 8, locals := 18 } : Room) s m #[(.ref a1), (.int p2)] below meth c s₁ [] 0 0 := Stand.of_body Bd
  have e0 : s₁.heap = h0 := by rw [← hh, Bd.state]; rfl
  have N0 := Fr.nil n0
  have pre0 : ∀ t, Steps p.tables e below (s₁.setTop (mkF m 0 #[.val (.ref a1), .val (.int p2), .unset] [])) t → Steps p.tables e below (s₁.setTop (entryFrame m #[(.ref a1), (.int p2)] 3)) t := fun t k => castTop (ef_2 m a1 p2) k
  obtain ⟨cl1, Ar1, q1, S1, M1, H1, G1⟩ := id V_a1
  obtain ⟨T2, h2, k2, X2, e2, E2, A2, EX2, st2⟩ := newPE X0 hx hZ (hw _ (List.mem_of_getElem? (i := 4) rfl)) e0 (g := (mkF m 15 #[.val (.ref a1), .val (.int p2), .unset] [(.int p2)])) rfl (hb hby d_jdk_65_method_121_code_15) rfl hb2.1 (cap := 8) hb2.2 (by decide) (by decide) (by decide) (ad := "[B") (by decide)
  obtain ⟨b2, gg2⟩ : ∃ z, z = h0.size := ⟨_, rfl⟩
  rw [← gg2] at A2 EX2 st2
  have g_b2 : n0 ≤ b2 := Nat.le_trans Z0 (Nat.le_of_eq gg2.symm)
  have sz_b2 : h0.size ≤ b2 := Nat.le_trans (Keep.refl h0 []).1 (Nat.le_of_eq gg2.symm)
  have Q2 : Keep h0 h2 [] := (Keep.refl h0 []).ext E2
  have V_b2 : Arv Z h2 b2 k2 .byte p2 [(.int (0 : Int32)), (.int (0 : Int32)), (.int (0 : Int32)), (.int (0 : Int32)), (.int (0 : Int32)), (.int (0 : Int32)), (.int (0 : Int32)), (.int (0 : Int32))] (.int (0 : Int32)) := (Arv.new A2 hb2.1).pad (pad_rep [] (.int (0 : Int32)) 8)
  obtain ⟨cl3, Ar3, q3, S3, M3, H3, G3⟩ := id (V_a1.ext E2)
  obtain ⟨_, _, ⟨T4, L4, k4, n4⟩, -, X4, ⟨Lc4, hQ4, l4, y4, z4⟩, st4⟩ := Jvm.LawKit.callS X2 hx (y := (⟨"java/lang/Math", "min", "(II)I"⟩ : MethodName)) hown (mvT hZ (hw _ (List.mem_of_getElem? (i := 32) rfl))) (mvT hZ (hw _ (List.mem_of_getElem? (i := 33) rfl))) (mvT hZ (hw _ (List.mem_of_getElem? (i := 34) rfl))) (mvT hZ (hw _ (List.mem_of_getElem? (i := 35) rfl))) (by decide) (backOf (W := 4) (rmM l Z a0 hw [] n1 p2 h2 n0 (Nat.le_trans Z0 E2.1) ) hZ (hw _ (List.mem_of_getElem? (i := 35) rfl)) (hw _ (List.mem_of_getElem? (i := 34) rfl)) (by decide) (by decide)) (g := (mkF m 25 #[.val (.ref a1), .val (.int p2), .val (.ref b2)] [(.int p2), (.int n1), (.int (0 : Int32)), (.ref b2), (.int (0 : Int32)), (.ref a1)])) rfl (by rw [hml]; rfl) (argsL := [(.int n1), (.int p2)]) (rest := [(.int (0 : Int32)), (.ref b2), (.int (0 : Int32)), (.ref a1)]) (lenOf pd_0 rfl) rfl (by show 2 * 0 + _ ≤ _; exact Nat.le_of_eq rfl) (hb hby d_jdk_65_method_121_code_25) (fun _ _ => ⟨rfl, e2, (by decide : 1 + 0 ≤ _), (by decide : 8 + 0 ≤ _)⟩)
  dsimp only [Pt.U, Pt.locs, Pt.cells, Pt.slots] at X4 l4 y4 z4 st4 hQ4
  subst l4 y4 z4
  obtain ⟨rfl, N4q, e4⟩ := hQ4
  have N4 := Fr.app N0 N4q
  obtain ⟨T5, h5, L5, X5, e5, N5, K5, V5, st5⟩ := cpA X4 hx hZ hown (hw _ (List.mem_of_getElem? (i := 36) rfl)) (hw _ (List.mem_of_getElem? (i := 25) rfl)) (hw _ (List.mem_of_getElem? (i := 23) rfl)) (hw _ (List.mem_of_getElem? (i := 24) rfl)) e4 (V_a1.ext E2) V_b2 (Or.inl ⟨rfl, rfl⟩) (by decide) (by decide) (by rw [own_min_eq hb1 hb2 hle]; exact hb1.1) (by rw [own_min_eq hb1 hb2 hle]; simp) (by rw [own_min_eq hb1 hb2 hle]; simpa using hle) (us := ((List.range ((own_minI n1 p2)).toNatClampNeg).map fun i => (L1).getD (((0 : Int32)).toNatClampNeg + i) (.int (0 : Int32)))) rfl (by rw [own_min_eq hb1 hb2 hle]; have := hb1.2; simp; omega) N4 g_b2 (g := (mkF m 28 #[.val (.ref a1), .val (.int p2), .val (.ref b2)] [(.int (own_minI n1 p2)), (.int (0 : Int32)), (.ref b2), (.int (0 : Int32)), (.ref a1)])) rfl (by rw [hml]; rfl) rfl (hb hby d_jdk_65_method_121_code_28) (by decide) (W := 0) (by show 2 * 0 + _ ≤ _; exact Nat.le_of_eq rfl) (by decide)
  have Q5 : Keep h0 h5 [] := Q2.trans K5 (allS (Or.inr sz_b2) all0)
  obtain ⟨fs, hr, hrun, hended, hW, hsame⟩ := X5.leave (v := some (.ref b2)) (fun h => by rw [Bd.returns] at h; cases h)
  refine ⟨_, _, pre0 _ ?_, hrun, hended, _, _, rfl, ?_, ⟨_, rfl⟩, hW, hsame.mono (by decide) (by decide)⟩
  · show Steps p.tables e below (s₁.setTop (mkF m 0 #[.val (.ref a1), .val (.int p2), .unset] [])) _
    refine XS.iloadN X0.here hx rfl (hb hby d_jdk_65_method_121_code_0) rfl ?_
    show Steps p.tables e below (s₁.setTop (mkF m 1 #[.val (.ref a1), .val (.int p2), .unset] [(.int p2)])) _
    refine XS.aloadN X0.here hx rfl (hb hby d_jdk_65_method_121_code_1) rfl rfl ?_
    show Steps p.tables e below (s₁.setTop (mkF m 2 #[.val (.ref a1), .val (.int p2), .unset] [(.ref a1), (.int p2)])) _
    refine X0.arraylength hx (by rw [e0]; exact Ar1.1) (State.isArrayOf_alike hZ.alike Ar1.2.1) (g := (mkF m 2 #[.val (.ref a1), .val (.int p2), .unset] [(.ref a1), (.int p2)])) rfl rfl (hb hby d_jdk_65_method_121_code_2) _ ?_
    rw [len_of S1 M1]
    show Steps p.tables e below (s₁.setTop (mkF m 3 #[.val (.ref a1), .val (.int p2), .unset] [(.int n1), (.int p2)])) _
    refine XS.icmpYes X0.here hx rfl (pc0 := 3) (pc' := 14) rfl (hb hby d_jdk_65_method_121_code_3) rfl (feq hc3).2 (by decide) (by decide) ?_
    show Steps p.tables e below (s₁.setTop (mkF m 14 #[.val (.ref a1), .val (.int p2), .unset] [])) _
    refine XS.iloadN X0.here hx rfl (hb hby d_jdk_65_method_121_code_14) rfl ?_
    show Steps p.tables e below (s₁.setTop (mkF m 15 #[.val (.ref a1), .val (.int p2), .unset] [(.int p2)])) _
    refine st2 _ ?_
    show Steps p.tables e below (T2.setTop (mkF m 17 #[.val (.ref a1), .val (.int p2), .unset] [(.ref b2)])) _
    refine XS.astoreN X2.here hx rfl (hb hby d_jdk_65_method_121_code_17) rfl rfl (l' := #[.val (.ref a1), .val (.int p2), .val (.ref b2)]) rfl ?_
    show Steps p.tables e below (T2.setTop (mkF m 18 #[.val (.ref a1), .val (.int p2), .val (.ref b2)] [])) _
    refine XS.aloadN X2.here hx rfl (hb hby d_jdk_65_method_121_code_18) rfl rfl ?_
    show Steps p.tables e below (T2.setTop (mkF m 19 #[.val (.ref a1), .val (.int p2), .val (.ref b2)] [(.ref a1)])) _
    refine XS.iconst X2.here hx rfl (hb hby d_jdk_65_method_121_code_19) ?_
    show Steps p.tables e below (T2.setTop (mkF m 20 #[.val (.ref a1), .val (.int p2), .val (.ref b2)] [(.int (0 : Int32)), (.ref a1)])) _
    refine XS.aloadN X2.here hx rfl (hb hby d_jdk_65_method_121_code_20) rfl rfl ?_
    show Steps p.tables e below (T2.setTop (mkF m 21 #[.val (.ref a1), .val (.int p2), .val (.ref b2)] [(.ref b2), (.int (0 : Int32)), (.ref a1)])) _
    refine XS.iconst X2.here hx rfl (hb hby d_jdk_65_method_121_code_21) ?_
    show Steps p.tables e below (T2.setTop (mkF m 22 #[.val (.ref a1), .val (.int p2), .val (.ref b2)] [(.int (0 : Int32)), (.ref b2), (.int (0 : Int32)), (.ref a1)])) _
    refine XS.aloadN X2.here hx rfl (hb hby d_jdk_65_method_121_code_22) rfl rfl ?_
    show Steps p.tables e below (T2.setTop (mkF m 23 #[.val (.ref a1), .val (.int p2), .val (.ref b2)] [(.ref a1), (.int (0 : Int32)), (.ref b2), (.int (0 : Int32)), (.ref a1)])) _
    refine X2.arraylength hx (by rw [e2]; exact Ar3.1) (State.isArrayOf_alike hZ.alike Ar3.2.1) (g := (mkF m 23 #[.val (.ref a1), .val (.int p2), .val (.ref b2)] [(.ref a1), (.int (0 : Int32)), (.ref b2), (.int (0 : Int32)), (.ref a1)])) rfl rfl (hb hby d_jdk_65_method_121_code_23) _ ?_
    rw [len_of S3 M3]
    show Steps p.tables e below (T2.setTop (mkF m 24 #[.val (.ref a1), .val (.int p2), .val (.ref b2)] [(.int n1), (.int (0 : Int32)), (.ref b2), (.int (0 : Int32)), (.ref a1)])) _
    refine XS.iloadN X2.here hx rfl (hb hby d_jdk_65_method_121_code_24) rfl ?_
    show Steps p.tables e below (T2.setTop (mkF m 25 #[.val (.ref a1), .val (.int p2), .val (.ref b2)] [(.int p2), (.int n1), (.int (0 : Int32)), (.ref b2), (.int (0 : Int32)), (.ref a1)])) _
    refine st4 _ ?_
    show Steps p.tables e below (T4.setTop (mkF m 28 #[.val (.ref a1), .val (.int p2), .val (.ref b2)] [(.int (own_minI n1 p2)), (.int (0 : Int32)), (.ref b2), (.int (0 : Int32)), (.ref a1)])) _
    refine st5 _ ?_
    show Steps p.tables e below (T5.setTop (mkF m 31 #[.val (.ref a1), .val (.int p2), .val (.ref b2)] [])) _
    refine XS.aloadN X5.here hx rfl (hb hby d_jdk_65_method_121_code_31) rfl rfl ?_
    show Steps p.tables e below (T5.setTop (mkF m 32 #[.val (.ref a1), .val (.int p2), .val (.ref b2)] [(.ref b2)])) _
    exact X5.areturnOut hx rfl Bd.returns rfl (hb hby d_jdk_65_method_121_code_32) hr
  · show Q_rmCp Z a1 p2 k1 n1 L1 h0 n0 _ T5.heap _
    rw [e5]
    exact ⟨b2, k2, rfl, N5, Q5, g_b2, sz_b2, (own_conv V5 rfl (own_cpB n1 p2 L1 hb1 hb2 hle)), (EX2.keep K5)⟩
theorem rmCp (l : Launch) (Z : State) (a0 : Array Value) (hw : ∀ d ∈ tables_1, d.before a0 Z = true) (ws : List Jvm.Cond) (a1 : Addr) (p2 : Int32) (k1 : ClassId) (n1 : Int32) (L1 : List Value) (h0 : Heap) (n0 : Nat) (Z0 : n0 ≤ h0.size) (V_a1 : Arv Z h0 a1 k1 .byte n1 L1 (.int (0 : Int32))) (E_a1 : Exa Z h0 a1 "[B") (hb1 : own_B n1 4) (hb2 : own_B p2 8) (hle : n1.toNatClampNeg ≤ p2.toNatClampNeg) :
    MetFree l (⟨"java/util/Arrays", "copyOf", "([BI)[B"⟩ : MethodName) (head1 (Jvm.Cond.code (⟨"java/util/Arrays", "copyOf", "([BI)[B"⟩ : MethodName) jdk_65_method_121_code 3 (some (.array .byte)) :: ws) ({ frames := 1, cells := 1, slots := 8, locals := 18 } : Room)) (fun a U => a = #[(.ref a1), (.int p2)] ∧ Z.Warmed39 U.vm ∧ U.heap = h0) (fun _ _ _ _ _ => True) (fun _ U o U' => ∃ v L, o = .returned v ∧ Q_rmCp Z a1 p2 k1 n1 L1 h0 n0 v U'.heap L ∧ FrameEnd U o U' L ({ frames := 1, cells := 1, slots := 8, locals := 18 } : Room).cells ({ frames := 1, cells := 1, slots := 8, locals := 18 } : Room).slots) := by
  by_cases hc3 : p2 = n1
  · skip
    exact rmCp_t l Z a0 hw ws a1 p2 k1 n1 L1 h0 n0 Z0 V_a1 E_a1 hb1 hb2 hle hc3
  · skip
    exact rmCp_f l Z a0 hw ws a1 p2 k1 n1 L1 h0 n0 Z0 V_a1 E_a1 hb1 hb2 hle hc3
theorem d_prog_61_method_17_code_0 : decode prog_61_method_17_code 0 = .ok (.aload_n 0, 1) := by decide +kernel
theorem d_prog_61_method_17_code_1 : decode prog_61_method_17_code 1 = .ok (.aload_n 0, 1) := by decide +kernel
theorem d_prog_61_method_17_code_2 : decode prog_61_method_17_code 2 = .ok (.arraylength, 1) := by decide +kernel
theorem d_prog_61_method_17_code_3 : decode prog_61_method_17_code 3 = .ok (.aload_n 1, 1) := by decide +kernel
theorem d_prog_61_method_17_code_4 : decode prog_61_method_17_code 4 = .ok (.arraylength, 1) := by decide +kernel
theorem d_prog_61_method_17_code_5 : decode prog_61_method_17_code 5 = .ok (.iadd, 1) := by decide +kernel
theorem d_prog_61_method_17_code_6 : decode prog_61_method_17_code 6 = .ok (.invokestatic 155, 3) := by decide +kernel
theorem pd_1 : parseMethodDescriptor "([BI)[B" = some ⟨[(.array .byte), .int], some (.array .byte)⟩ := by decide +kernel
theorem d_prog_61_method_17_code_9 : decode prog_61_method_17_code 9 = .ok (.astore_n 2, 1) := by decide +kernel
theorem d_prog_61_method_17_code_10 : decode prog_61_method_17_code 10 = .ok (.aload_n 1, 1) := by decide +kernel
theorem d_prog_61_method_17_code_11 : decode prog_61_method_17_code 11 = .ok (.iconst 0, 1) := by decide +kernel
theorem d_prog_61_method_17_code_12 : decode prog_61_method_17_code 12 = .ok (.aload_n 2, 1) := by decide +kernel
theorem d_prog_61_method_17_code_13 : decode prog_61_method_17_code 13 = .ok (.aload_n 0, 1) := by decide +kernel
theorem d_prog_61_method_17_code_14 : decode prog_61_method_17_code 14 = .ok (.arraylength, 1) := by decide +kernel
theorem d_prog_61_method_17_code_15 : decode prog_61_method_17_code 15 = .ok (.aload_n 1, 1) := by decide +kernel
theorem d_prog_61_method_17_code_16 : decode prog_61_method_17_code 16 = .ok (.arraylength, 1) := by decide +kernel
theorem d_prog_61_method_17_code_17 : decode prog_61_method_17_code 17 = .ok (.invokestatic 159, 3) := by decide +kernel
theorem d_prog_61_method_17_code_20 : decode prog_61_method_17_code 20 = .ok (.aload_n 2, 1) := by decide +kernel
theorem d_prog_61_method_17_code_21 : decode prog_61_method_17_code 21 = .ok (.areturn, 1) := by decide +kernel
def Q_rmC (Z : State) (a1 : Addr) (a2 : Addr) (k1 : ClassId) (n1 : Int32) (L1 : List Value) (k2 : ClassId) (n2 : Int32) (L2 : List Value) (h0 : Heap) (n0 : Nat) (v : Option Value) (h : Heap) (L : List Loc) : Prop := ∃ (b : Addr) (k : ClassId), v = some (.ref b) ∧ Fr n0 L ∧ Keep h0 h [] ∧ n0 ≤ b ∧ h0.size ≤ b ∧ Arv Z h b k .byte (n1 + n2) (own_cat n1 L1 L2) (.int (0 : Int32)) ∧ Exa Z h b "[B"
theorem pn_2 : plainName "com/example/insistent_hook/insistenthook/store/Keys" = true := by first | (simp [plainName, overriddenIn]; done) | decide +kernel
theorem ef_3 (m : MethodId) (x0 : Addr) (x1 : Addr) : entryFrame m #[(.ref x0), (.ref x1)] 3 = mkF m 0 #[.val (.ref x0), .val (.ref x1), .unset] [] := by first | (simp [entryFrame, mkF, argsToLocals, Value.category]; done) | rfl
set_option maxRecDepth 65536 in
set_option maxHeartbeats 40000000 in
theorem rmC (l : Launch) (Z : State) (a0 : Array Value) (hw : ∀ d ∈ tables_1, d.before a0 Z = true) (ws : List Jvm.Cond) (a1 : Addr) (a2 : Addr) (k1 : ClassId) (n1 : Int32) (L1 : List Value) (k2 : ClassId) (n2 : Int32) (L2 : List Value) (h0 : Heap) (n0 : Nat) (Z0 : n0 ≤ h0.size) (V_a1 : Arv Z h0 a1 k1 .byte n1 L1 (.int (0 : Int32))) (E_a1 : Exa Z h0 a1 "[B") (V_a2 : Arv Z h0 a2 k2 .byte n2 L2 (.int (0 : Int32))) (hb1 : own_B n1 4) (hb2 : own_B n2 4) :
    MetFree l (⟨"com/example/insistent_hook/insistenthook/store/Keys", "concat", "([B[B)[B"⟩ : MethodName) (head1 (Jvm.Cond.code (⟨"com/example/insistent_hook/insistenthook/store/Keys", "concat", "([B[B)[B"⟩ : MethodName) prog_61_method_17_code 3 (some (.array .byte)) :: ws) ({ frames := 2, cells := 1, slots := 8, locals := 32 } : Room)) (fun a U => a = #[(.ref a1), (.ref a2)] ∧ Z.Warmed39 U.vm ∧ U.heap = h0) (fun _ _ _ _ _ => True) (fun _ U o U' => ∃ v L, o = .returned v ∧ Q_rmC Z a1 a2 k1 n1 L1 k2 n2 L2 h0 n0 v U'.heap L ∧ FrameEnd U o U' L ({ frames := 2, cells := 1, slots := 8, locals := 32 } : Room).cells ({ frames := 2, cells := 1, slots := 8, locals := 32 } : Room).slots) := by
  refine MetFree.of_bodySF (plainFor_of_name pn_2) hisR ?_
  intro p e s m args below meth c s₁ Bd hml0 hP hK
  obtain ⟨rfl, hZ, hh⟩ := hP
  have hx := Bd.exec
  have hby := Bd.bytes
  have hml : c.maxLocals = 3 := hml0
  have hown : s.vm.findClass "com/example/insistent_hook/insistenthook/store/Keys" = some m.cls := findClass_of_methodNamed Bd.named
  have hnm := (name_of_methodNamed Bd.named Bd.method).1
  have X0 : Stand p l e ({ frames := 2, cells := 1, slots := 8, locals := 32 } : Room) s m #[(.ref a1), (.ref a2)] below meth c s₁ [] 0 0 := Stand.of_body Bd
  have e0 : s₁.heap = h0 := by rw [← hh, Bd.state]; rfl
  have N0 := Fr.nil n0
  have pre0 : ∀ t, Steps p.tables e below (s₁.setTop (mkF m 0 #[.val (.ref a1), .val (.ref a2), .unset] [])) t → Steps p.tables e below (s₁.setTop (entryFrame m #[(.ref a1), (.ref a2)] 3)) t := fun t k => castTop (ef_3 m a1 a2) k
  obtain ⟨cl1, Ar1, q1, S1, M1, H1, G1⟩ := id V_a1
  obtain ⟨cl2, Ar2, q2, S2, M2, H2, G2⟩ := id V_a2
  obtain ⟨_, _, ⟨T3, L3, k3, n3⟩, -, X3, ⟨Lc3, hQ3, l3, y3, z3⟩, st3⟩ := Jvm.LawKit.callS X0 hx (y := (⟨"java/util/Arrays", "copyOf", "([BI)[B"⟩ : MethodName)) hown (mvT hZ (hw _ (List.mem_of_getElem? (i := 9) rfl))) (mvT hZ (hw _ (List.mem_of_getElem? (i := 10) rfl))) (mvT hZ (hw _ (List.mem_of_getElem? (i := 11) rfl))) (mvT hZ (hw _ (List.mem_of_getElem? (i := 12) rfl))) (by decide) (backOf (W := 0) (rmCp l Z a0 hw [] a1 (n1 + n2) k1 n1 L1 h0 n0 Z0 V_a1 E_a1 (hb1) ((own_sum hb1 hb2).1) (by rw [(own_sum hb1 hb2).2]; omega)) hZ (hw _ (List.mem_of_getElem? (i := 12) rfl)) (hw _ (List.mem_of_getElem? (i := 11) rfl)) (by decide) (by decide)) (g := (mkF m 6 #[.val (.ref a1), .val (.ref a2), .unset] [(.int (n1 + n2)), (.ref a1)])) rfl (by rw [hml]; rfl) (argsL := [(.ref a1), (.int (n1 + n2))]) (rest := []) (lenOf pd_1 rfl) rfl (by show 2 * 0 + _ ≤ _; exact Nat.le_of_eq rfl) (hb hby d_prog_61_method_17_code_6) (fun _ _ => ⟨rfl, e0, (by decide : 0 + 1 ≤ _), (by decide : 0 + 8 ≤ _)⟩)
  dsimp only [Pt.U, Pt.locs, Pt.cells, Pt.slots] at X3 l3 y3 z3 st3 hQ3
  subst l3 y3 z3
  obtain ⟨b_3, k_3, rfl, N3q, K3, g_b_3, sq_b_3, p3_0, p3_1⟩ := hQ3
  have N3 := Fr.app N0 N3q
  have sz_b_3 : h0.size ≤ b_3 := Nat.le_trans (Keep.refl h0 []).1 sq_b_3
  have Q3 : Keep h0 T3.heap [] := (Keep.refl h0 []).trans K3 all0
  obtain ⟨cl4, Ar4, q4, S4, M4, H4, G4⟩ := id (V_a1.keep K3 nin0)
  obtain ⟨cl5, Ar5, q5, S5, M5, H5, G5⟩ := id (V_a2.keep K3 nin0)
  obtain ⟨T6, h6, L6, X6, e6, N6, K6, V6, st6⟩ := cpA X3 hx hZ hown (hw _ (List.mem_of_getElem? (i := 22) rfl)) (hw _ (List.mem_of_getElem? (i := 25) rfl)) (hw _ (List.mem_of_getElem? (i := 23) rfl)) (hw _ (List.mem_of_getElem? (i := 24) rfl)) rfl (V_a2.keep K3 nin0) p3_0 (Or.inl ⟨rfl, rfl⟩) (by decide) hb1.1 hb2.1 (by simp) (by rw [(own_sum hb1 hb2).2]; exact Nat.le_refl _) (us := ((List.range (n2).toNatClampNeg).map fun i => (L2).getD (((0 : Int32)).toNatClampNeg + i) (.int (0 : Int32)))) rfl (by have := (own_sum hb1 hb2).1.2; rw [(own_sum hb1 hb2).2] at this; simpa [own_cpy] using this) N3 g_b_3 (g := (mkF m 17 #[.val (.ref a1), .val (.ref a2), .val (.ref b_3)] [(.int n2), (.int n1), (.ref b_3), (.int (0 : Int32)), (.ref a2)])) rfl (by rw [hml]; rfl) rfl (hb hby d_prog_61_method_17_code_17) (by decide) (W := 0) (by show 2 * 0 + _ ≤ _; exact Nat.le_of_eq rfl) (by decide)
  have Q6 : Keep h0 h6 [] := Q3.trans K6 (allS (Or.inr sz_b_3) all0)
  obtain ⟨fs, hr, hrun, hended, hW, hsame⟩ := X6.leave (v := some (.ref b_3)) (fun h => by rw [Bd.returns] at h; cases h)
  refine ⟨_, _, pre0 _ ?_, hrun, hended, _, _, rfl, ?_, ⟨_, rfl⟩, hW, hsame.mono (by decide) (by decide)⟩
  · show Steps p.tables e below (s₁.setTop (mkF m 0 #[.val (.ref a1), .val (.ref a2), .unset] [])) _
    refine XS.aloadN X0.here hx rfl (hb hby d_prog_61_method_17_code_0) rfl rfl ?_
    show Steps p.tables e below (s₁.setTop (mkF m 1 #[.val (.ref a1), .val (.ref a2), .unset] [(.ref a1)])) _
    refine XS.aloadN X0.here hx rfl (hb hby d_prog_61_method_17_code_1) rfl rfl ?_
    show Steps p.tables e below (s₁.setTop (mkF m 2 #[.val (.ref a1), .val (.ref a2), .unset] [(.ref a1), (.ref a1)])) _
    refine X0.arraylength hx (by rw [e0]; exact Ar1.1) (State.isArrayOf_alike hZ.alike Ar1.2.1) (g := (mkF m 2 #[.val (.ref a1), .val (.ref a2), .unset] [(.ref a1), (.ref a1)])) rfl rfl (hb hby d_prog_61_method_17_code_2) _ ?_
    rw [len_of S1 M1]
    show Steps p.tables e below (s₁.setTop (mkF m 3 #[.val (.ref a1), .val (.ref a2), .unset] [(.int n1), (.ref a1)])) _
    refine XS.aloadN X0.here hx rfl (hb hby d_prog_61_method_17_code_3) rfl rfl ?_
    show Steps p.tables e below (s₁.setTop (mkF m 4 #[.val (.ref a1), .val (.ref a2), .unset] [(.ref a2), (.int n1), (.ref a1)])) _
    refine X0.arraylength hx (by rw [e0]; exact Ar2.1) (State.isArrayOf_alike hZ.alike Ar2.2.1) (g := (mkF m 4 #[.val (.ref a1), .val (.ref a2), .unset] [(.ref a2), (.int n1), (.ref a1)])) rfl rfl (hb hby d_prog_61_method_17_code_4) _ ?_
    rw [len_of S2 M2]
    show Steps p.tables e below (s₁.setTop (mkF m 5 #[.val (.ref a1), .val (.ref a2), .unset] [(.int n2), (.int n1), (.ref a1)])) _
    refine XS.iadd X0.here hx rfl (hb hby d_prog_61_method_17_code_5) rfl ?_
    show Steps p.tables e below (s₁.setTop (mkF m 6 #[.val (.ref a1), .val (.ref a2), .unset] [(.int (n1 + n2)), (.ref a1)])) _
    refine st3 _ ?_
    show Steps p.tables e below (T3.setTop (mkF m 9 #[.val (.ref a1), .val (.ref a2), .unset] [(.ref b_3)])) _
    refine XS.astoreN X3.here hx rfl (hb hby d_prog_61_method_17_code_9) rfl rfl (l' := #[.val (.ref a1), .val (.ref a2), .val (.ref b_3)]) rfl ?_
    show Steps p.tables e below (T3.setTop (mkF m 10 #[.val (.ref a1), .val (.ref a2), .val (.ref b_3)] [])) _
    refine XS.aloadN X3.here hx rfl (hb hby d_prog_61_method_17_code_10) rfl rfl ?_
    show Steps p.tables e below (T3.setTop (mkF m 11 #[.val (.ref a1), .val (.ref a2), .val (.ref b_3)] [(.ref a2)])) _
    refine XS.iconst X3.here hx rfl (hb hby d_prog_61_method_17_code_11) ?_
    show Steps p.tables e below (T3.setTop (mkF m 12 #[.val (.ref a1), .val (.ref a2), .val (.ref b_3)] [(.int (0 : Int32)), (.ref a2)])) _
    refine XS.aloadN X3.here hx rfl (hb hby d_prog_61_method_17_code_12) rfl rfl ?_
    show Steps p.tables e below (T3.setTop (mkF m 13 #[.val (.ref a1), .val (.ref a2), .val (.ref b_3)] [(.ref b_3), (.int (0 : Int32)), (.ref a2)])) _
    refine XS.aloadN X3.here hx rfl (hb hby d_prog_61_method_17_code_13) rfl rfl ?_
    show Steps p.tables e below (T3.setTop (mkF m 14 #[.val (.ref a1), .val (.ref a2), .val (.ref b_3)] [(.ref a1), (.ref b_3), (.int (0 : Int32)), (.ref a2)])) _
    refine X3.arraylength hx (by exact Ar4.1) (State.isArrayOf_alike hZ.alike Ar4.2.1) (g := (mkF m 14 #[.val (.ref a1), .val (.ref a2), .val (.ref b_3)] [(.ref a1), (.ref b_3), (.int (0 : Int32)), (.ref a2)])) rfl rfl (hb hby d_prog_61_method_17_code_14) _ ?_
    rw [len_of S4 M4]
    show Steps p.tables e below (T3.setTop (mkF m 15 #[.val (.ref a1), .val (.ref a2), .val (.ref b_3)] [(.int n1), (.ref b_3), (.int (0 : Int32)), (.ref a2)])) _
    refine XS.aloadN X3.here hx rfl (hb hby d_prog_61_method_17_code_15) rfl rfl ?_
    show Steps p.tables e below (T3.setTop (mkF m 16 #[.val (.ref a1), .val (.ref a2), .val (.ref b_3)] [(.ref a2), (.int n1), (.ref b_3), (.int (0 : Int32)), (.ref a2)])) _
    refine X3.arraylength hx (by exact Ar5.1) (State.isArrayOf_alike hZ.alike Ar5.2.1) (g := (mkF m 16 #[.val (.ref a1), .val (.ref a2), .val (.ref b_3)] [(.ref a2), (.int n1), (.ref b_3), (.int (0 : Int32)), (.ref a2)])) rfl rfl (hb hby d_prog_61_method_17_code_16) _ ?_
    rw [len_of S5 M5]
    show Steps p.tables e below (T3.setTop (mkF m 17 #[.val (.ref a1), .val (.ref a2), .val (.ref b_3)] [(.int n2), (.int n1), (.ref b_3), (.int (0 : Int32)), (.ref a2)])) _
    refine st6 _ ?_
    show Steps p.tables e below (T6.setTop (mkF m 20 #[.val (.ref a1), .val (.ref a2), .val (.ref b_3)] [])) _
    refine XS.aloadN X6.here hx rfl (hb hby d_prog_61_method_17_code_20) rfl rfl ?_
    show Steps p.tables e below (T6.setTop (mkF m 21 #[.val (.ref a1), .val (.ref a2), .val (.ref b_3)] [(.ref b_3)])) _
    exact X6.areturnOut hx rfl Bd.returns rfl (hb hby d_prog_61_method_17_code_21) hr
  · show Q_rmC Z a1 a2 k1 n1 L1 k2 n2 L2 h0 n0 _ T6.heap _
    rw [e6]
    exact ⟨b_3, k_3, rfl, N6, Q6, g_b_3, sz_b_3, (own_conv V6 rfl (own_cpC n1 n2 L1 L2 hb1 hb2)), (p3_1.keep K6)⟩
theorem d_method_4_code_0 : decode method_4_code 0 = .ok (.iload_n 1, 1) := by decide +kernel
theorem d_method_4_code_1 : decode method_4_code 1 = .ok (.iload_n 2, 1) := by decide +kernel
theorem d_method_4_code_2 : decode method_4_code 2 = .ok (.iload_n 3, 1) := by decide +kernel
theorem d_method_4_code_3 : decode method_4_code 3 = .ok (.iadd, 1) := by decide +kernel
theorem d_method_4_code_4 : decode method_4_code 4 = .ok (.if_icmp .lt 5, 3) := by decide +kernel
theorem d_method_4_code_9 : decode method_4_code 9 = .ok (.iload_n 1, 1) := by decide +kernel
theorem d_method_4_code_10 : decode method_4_code 10 = .ok (.iload_n 2, 1) := by decide +kernel
theorem d_method_4_code_11 : decode method_4_code 11 = .ok (.if_icmp .ge 16, 3) := by decide +kernel
theorem d_method_4_code_14 : decode method_4_code 14 = .ok (.iload 4, 2) := by decide +kernel
theorem d_method_4_code_16 : decode method_4_code 16 = .ok (.bipush 8, 2) := by decide +kernel
theorem d_method_4_code_18 : decode method_4_code 18 = .ok (.iload_n 1, 1) := by decide +kernel
theorem d_method_4_code_19 : decode method_4_code 19 = .ok (.imul, 1) := by decide +kernel
theorem d_method_4_code_20 : decode method_4_code 20 = .ok (.iushr, 1) := by decide +kernel
theorem d_method_4_code_21 : decode method_4_code 21 = .ok (.i2b, 1) := by decide +kernel
theorem d_method_4_code_22 : decode method_4_code 22 = .ok (.istore 6, 2) := by decide +kernel
theorem d_method_4_code_24 : decode method_4_code 24 = .ok (.goto 15, 3) := by decide +kernel
theorem d_method_4_code_39 : decode method_4_code 39 = .ok (.aload_n 0, 1) := by decide +kernel
theorem d_method_4_code_40 : decode method_4_code 40 = .ok (.iload_n 1, 1) := by decide +kernel
theorem d_method_4_code_41 : decode method_4_code 41 = .ok (.baload, 1) := by decide +kernel
theorem d_method_4_code_42 : decode method_4_code 42 = .ok (.iload 6, 2) := by decide +kernel
theorem d_method_4_code_44 : decode method_4_code 44 = .ok (.if_icmp .ne 7, 3) := by decide +kernel
theorem d_method_4_code_47 : decode method_4_code 47 = .ok (.iconst 1, 1) := by decide +kernel
theorem d_method_4_code_48 : decode method_4_code 48 = .ok (.goto 4, 3) := by decide +kernel
theorem d_method_4_code_52 : decode method_4_code 52 = .ok (.ireturn, 1) := by decide +kernel
theorem d_method_4_code_27 : decode method_4_code 27 = .ok (.iload 5, 2) := by decide +kernel
theorem d_method_4_code_29 : decode method_4_code 29 = .ok (.bipush 8, 2) := by decide +kernel
theorem d_method_4_code_31 : decode method_4_code 31 = .ok (.iload_n 1, 1) := by decide +kernel
theorem d_method_4_code_32 : decode method_4_code 32 = .ok (.iload_n 2, 1) := by decide +kernel
theorem d_method_4_code_33 : decode method_4_code 33 = .ok (.isub, 1) := by decide +kernel
theorem d_method_4_code_34 : decode method_4_code 34 = .ok (.imul, 1) := by decide +kernel
theorem d_method_4_code_35 : decode method_4_code 35 = .ok (.iushr, 1) := by decide +kernel
theorem d_method_4_code_36 : decode method_4_code 36 = .ok (.i2b, 1) := by decide +kernel
theorem d_method_4_code_37 : decode method_4_code 37 = .ok (.istore 6, 2) := by decide +kernel
theorem d_method_4_code_7 : decode method_4_code 7 = .ok (.iconst 1, 1) := by decide +kernel
theorem d_method_4_code_8 : decode method_4_code 8 = .ok (.ireturn, 1) := by decide +kernel
def Q_rmOk (Z : State) (a1 : Addr) (p2 : Int32) (p3 : Int32) (p4 : Int32) (p5 : Int32) (p6 : Int32) (k1 : ClassId) (L1 : List Value) (h0 : Heap) (n0 : Nat) (v : Option Value) (h : Heap) (L : List Loc) : Prop := v = some (.int (1 : Int32)) ∧ Fr n0 L ∧ h = h0
theorem ef_4 (m : MethodId) (x0 : Addr) (x1 : Int32) (x2 : Int32) (x3 : Int32) (x4 : Int32) (x5 : Int32) : entryFrame m #[(.ref x0), (.int x1), (.int x2), (.int x3), (.int x4), (.int x5)] 7 = mkF m 0 #[.val (.ref x0), .val (.int x1), .val (.int x2), .val (.int x3), .val (.int x4), .val (.int x5), .unset] [] := by first | (simp [entryFrame, mkF, argsToLocals, Value.category]; done) | rfl
set_option maxRecDepth 65536 in
set_option maxHeartbeats 40000000 in
theorem rmOk_tt (l : Launch) (Z : State) (a0 : Array Value) (hw : ∀ d ∈ tables_1, d.before a0 Z = true) (ws : List Jvm.Cond) (a1 : Addr) (p2 : Int32) (p3 : Int32) (p4 : Int32) (p5 : Int32) (p6 : Int32) (k1 : ClassId) (L1 : List Value) (h0 : Heap) (n0 : Nat) (Z0 : n0 ≤ h0.size) (V_a1 : Arv Z h0 a1 k1 .byte (p3 + p4) L1 (.int (0 : Int32))) (h0i : ¬ p2 < 0) (hv : p2 < p3 + p4 → L1.getD p2.toNatClampNeg (.int (0 : Int32)) = .int (own_want p2 p3 p5 p6)) (hc4 : p2 < (p3 + p4)) (hc11 : p2 < p3) :
    MetFree l (⟨"com/example/insistent_hook/insistenthook/store/KeysConcatPinLaw", "ok", "([BIIIII)Z"⟩ : MethodName) (head1 (Jvm.Cond.code (⟨"com/example/insistent_hook/insistenthook/store/KeysConcatPinLaw", "ok", "([BIIIII)Z"⟩ : MethodName) method_4_code 7 (some .boolean) :: ws) ({ frames := 0, cells := 0, slots := 0, locals := 0 } : Room)) (fun a U => a = #[(.ref a1), (.int p2), (.int p3), (.int p4), (.int p5), (.int p6)] ∧ Z.Warmed39 U.vm ∧ U.heap = h0) (fun _ _ _ _ _ => True) (fun _ U o U' => ∃ v L, o = .returned v ∧ Q_rmOk Z a1 p2 p3 p4 p5 p6 k1 L1 h0 n0 v U'.heap L ∧ FrameEnd U o U' L ({ frames := 0, cells := 0, slots := 0, locals := 0 } : Room).cells ({ frames := 0, cells := 0, slots := 0, locals := 0 } : Room).slots) := by
  refine MetFree.of_bodySF (plainFor_of_name pn_0) hisR ?_
  intro p e s m args below meth c s₁ Bd hml0 hP hK
  obtain ⟨rfl, hZ, hh⟩ := hP
  have hx := Bd.exec
  have hby := Bd.bytes
  have hml : c.maxLocals = 7 := hml0
  have hown : s.vm.findClass "com/example/insistent_hook/insistenthook/store/KeysConcatPinLaw" = some m.cls := findClass_of_methodNamed Bd.named
  have hnm := (name_of_methodNamed Bd.named Bd.method).1
  have X0 : Stand p l e ({ frames := 0, cells := 0, slots := 0, locals := 0 } : Room) s m #[(.ref a1), (.int p2), (.int p3), (.int p4), (.int p5), (.int p6)] below meth c s₁ [] 0 0 := Stand.of_body Bd
  have e0 : s₁.heap = h0 := by rw [← hh, Bd.state]; rfl
  have N0 := Fr.nil n0
  have pre0 : ∀ t, Steps p.tables e below (s₁.setTop (mkF m 0 #[.val (.ref a1), .val (.int p2), .val (.int p3), .val (.int p4), .val (.int p5), .val (.int p6), .unset] [])) t → Steps p.tables e below (s₁.setTop (entryFrame m #[(.ref a1), (.int p2), (.int p3), (.int p4), (.int p5), (.int p6)] 7)) t := fun t k => castTop (ef_4 m a1 p2 p3 p4 p5 p6) k
  obtain ⟨cl1, Ar1, q1, S1, M1, H1, G1⟩ := id V_a1
  have hin1 : ¬ (p2 < 0 ∨ cl1.slots.size ≤ (p2).toNatClampNeg) := inb_of S1 ⟨h0i, hc4⟩
  have hat1 : cl1.slots[(p2).toNatClampNeg]? = some (.int (own_want p2 p3 p5 p6)) := H1.at hin1 (hv hc4)
  obtain ⟨fs, hr, hrun, hended, hW, hsame⟩ := X0.leave (v := some (.int (1 : Int32))) (fun h => by rw [Bd.returns] at h; cases h)
  refine ⟨_, _, pre0 _ ?_, hrun, hended, _, _, rfl, ?_, ⟨_, rfl⟩, hW, hsame.mono (by decide) (by decide)⟩
  · show Steps p.tables e below (s₁.setTop (mkF m 0 #[.val (.ref a1), .val (.int p2), .val (.int p3), .val (.int p4), .val (.int p5), .val (.int p6), .unset] [])) _
    refine XS.iloadN X0.here hx rfl (hb hby d_method_4_code_0) rfl ?_
    show Steps p.tables e below (s₁.setTop (mkF m 1 #[.val (.ref a1), .val (.int p2), .val (.int p3), .val (.int p4), .val (.int p5), .val (.int p6), .unset] [(.int p2)])) _
    refine XS.iloadN X0.here hx rfl (hb hby d_method_4_code_1) rfl ?_
    show Steps p.tables e below (s₁.setTop (mkF m 2 #[.val (.ref a1), .val (.int p2), .val (.int p3), .val (.int p4), .val (.int p5), .val (.int p6), .unset] [(.int p3), (.int p2)])) _
    refine XS.iloadN X0.here hx rfl (hb hby d_method_4_code_2) rfl ?_
    show Steps p.tables e below (s₁.setTop (mkF m 3 #[.val (.ref a1), .val (.int p2), .val (.int p3), .val (.int p4), .val (.int p5), .val (.int p6), .unset] [(.int p4), (.int p3), (.int p2)])) _
    refine XS.iadd X0.here hx rfl (hb hby d_method_4_code_3) rfl ?_
    show Steps p.tables e below (s₁.setTop (mkF m 4 #[.val (.ref a1), .val (.int p2), .val (.int p3), .val (.int p4), .val (.int p5), .val (.int p6), .unset] [(.int (p3 + p4)), (.int p2)])) _
    refine XS.icmpYes X0.here hx rfl (pc0 := 4) (pc' := 9) rfl (hb hby d_method_4_code_4) rfl (tlt hc4).1 (by decide) (by decide) ?_
    show Steps p.tables e below (s₁.setTop (mkF m 9 #[.val (.ref a1), .val (.int p2), .val (.int p3), .val (.int p4), .val (.int p5), .val (.int p6), .unset] [])) _
    refine XS.iloadN X0.here hx rfl (hb hby d_method_4_code_9) rfl ?_
    show Steps p.tables e below (s₁.setTop (mkF m 10 #[.val (.ref a1), .val (.int p2), .val (.int p3), .val (.int p4), .val (.int p5), .val (.int p6), .unset] [(.int p2)])) _
    refine XS.iloadN X0.here hx rfl (hb hby d_method_4_code_10) rfl ?_
    show Steps p.tables e below (s₁.setTop (mkF m 11 #[.val (.ref a1), .val (.int p2), .val (.int p3), .val (.int p4), .val (.int p5), .val (.int p6), .unset] [(.int p3), (.int p2)])) _
    refine XS.icmpNo X0.here hx rfl (hb hby d_method_4_code_11) rfl (tlt hc11).2.1 ?_
    show Steps p.tables e below (s₁.setTop (mkF m 14 #[.val (.ref a1), .val (.int p2), .val (.int p3), .val (.int p4), .val (.int p5), .val (.int p6), .unset] [])) _
    refine XS.iload X0.here hx rfl (hb hby d_method_4_code_14) rfl ?_
    show Steps p.tables e below (s₁.setTop (mkF m 16 #[.val (.ref a1), .val (.int p2), .val (.int p3), .val (.int p4), .val (.int p5), .val (.int p6), .unset] [(.int p5)])) _
    refine XS.bipush X0.here hx rfl (hb hby d_method_4_code_16) ?_
    show Steps p.tables e below (s₁.setTop (mkF m 18 #[.val (.ref a1), .val (.int p2), .val (.int p3), .val (.int p4), .val (.int p5), .val (.int p6), .unset] [(.int (8 : Int32)), (.int p5)])) _
    refine XS.iloadN X0.here hx rfl (hb hby d_method_4_code_18) rfl ?_
    show Steps p.tables e below (s₁.setTop (mkF m 19 #[.val (.ref a1), .val (.int p2), .val (.int p3), .val (.int p4), .val (.int p5), .val (.int p6), .unset] [(.int p2), (.int (8 : Int32)), (.int p5)])) _
    refine XS.imul X0.here hx rfl (hb hby d_method_4_code_19) rfl ?_
    show Steps p.tables e below (s₁.setTop (mkF m 20 #[.val (.ref a1), .val (.int p2), .val (.int p3), .val (.int p4), .val (.int p5), .val (.int p6), .unset] [(.int ((8 : Int32) * p2)), (.int p5)])) _
    refine XS.iushr X0.here hx rfl (hb hby d_method_4_code_20) rfl ?_
    show Steps p.tables e below (s₁.setTop (mkF m 21 #[.val (.ref a1), .val (.int p2), .val (.int p3), .val (.int p4), .val (.int p5), .val (.int p6), .unset] [(.int ((p5.toUInt32 >>> (((8 : Int32) * p2) &&& 31).toUInt32).toInt32))])) _
    refine XS.i2b X0.here hx rfl (hb hby d_method_4_code_21) rfl ?_
    show Steps p.tables e below (s₁.setTop (mkF m 22 #[.val (.ref a1), .val (.int p2), .val (.int p3), .val (.int p4), .val (.int p5), .val (.int p6), .unset] [(.int (own_by p5 ((8 : Int32) * p2)))])) _
    refine XS.istore X0.here hx rfl (hb hby d_method_4_code_22) rfl (l' := #[.val (.ref a1), .val (.int p2), .val (.int p3), .val (.int p4), .val (.int p5), .val (.int p6), .val (.int (own_by p5 ((8 : Int32) * p2)))]) rfl ?_
    show Steps p.tables e below (s₁.setTop (mkF m 24 #[.val (.ref a1), .val (.int p2), .val (.int p3), .val (.int p4), .val (.int p5), .val (.int p6), .val (.int (own_by p5 ((8 : Int32) * p2)))] [])) _
    refine XS.goto X0.here hx rfl (pc0 := 24) (pc' := 39) rfl (hb hby d_method_4_code_24) (by decide) (by decide) ?_
    show Steps p.tables e below (s₁.setTop (mkF m 39 #[.val (.ref a1), .val (.int p2), .val (.int p3), .val (.int p4), .val (.int p5), .val (.int p6), .val (.int (own_by p5 ((8 : Int32) * p2)))] [])) _
    refine XS.aloadN X0.here hx rfl (hb hby d_method_4_code_39) rfl rfl ?_
    show Steps p.tables e below (s₁.setTop (mkF m 40 #[.val (.ref a1), .val (.int p2), .val (.int p3), .val (.int p4), .val (.int p5), .val (.int p6), .val (.int (own_by p5 ((8 : Int32) * p2)))] [(.ref a1)])) _
    refine XS.iloadN X0.here hx rfl (hb hby d_method_4_code_40) rfl ?_
    show Steps p.tables e below (s₁.setTop (mkF m 41 #[.val (.ref a1), .val (.int p2), .val (.int p3), .val (.int p4), .val (.int p5), .val (.int p6), .val (.int (own_by p5 ((8 : Int32) * p2)))] [(.int p2), (.ref a1)])) _
    refine X0.baloadBytes hx (j := p2) (v := (.int (own_want p2 p3 p5 p6))) (by rw [e0]; exact Ar1.1) (State.isArrayOf_alike hZ.alike Ar1.2.1) Ar1.2.2 hin1 hat1 (g := (mkF m 41 #[.val (.ref a1), .val (.int p2), .val (.int p3), .val (.int p4), .val (.int p5), .val (.int p6), .val (.int (own_by p5 ((8 : Int32) * p2)))] [(.int p2), (.ref a1)])) rfl rfl (hb hby d_method_4_code_41) _ ?_
    show Steps p.tables e below (s₁.setTop (mkF m 42 #[.val (.ref a1), .val (.int p2), .val (.int p3), .val (.int p4), .val (.int p5), .val (.int p6), .val (.int (own_by p5 ((8 : Int32) * p2)))] [(.int (own_want p2 p3 p5 p6))])) _
    refine XS.iload X0.here hx rfl (hb hby d_method_4_code_42) rfl ?_
    show Steps p.tables e below (s₁.setTop (mkF m 44 #[.val (.ref a1), .val (.int p2), .val (.int p3), .val (.int p4), .val (.int p5), .val (.int p6), .val (.int (own_by p5 ((8 : Int32) * p2)))] [(.int (own_by p5 ((8 : Int32) * p2))), (.int (own_want p2 p3 p5 p6))])) _
    refine XS.icmpNo X0.here hx rfl (hb hby d_method_4_code_44) rfl (teq (by unfold own_want; rw [if_pos hc11])).2 ?_
    show Steps p.tables e below (s₁.setTop (mkF m 47 #[.val (.ref a1), .val (.int p2), .val (.int p3), .val (.int p4), .val (.int p5), .val (.int p6), .val (.int (own_by p5 ((8 : Int32) * p2)))] [])) _
    refine XS.iconst X0.here hx rfl (hb hby d_method_4_code_47) ?_
    show Steps p.tables e below (s₁.setTop (mkF m 48 #[.val (.ref a1), .val (.int p2), .val (.int p3), .val (.int p4), .val (.int p5), .val (.int p6), .val (.int (own_by p5 ((8 : Int32) * p2)))] [(.int (1 : Int32))])) _
    refine XS.goto X0.here hx rfl (pc0 := 48) (pc' := 52) rfl (hb hby d_method_4_code_48) (by decide) (by decide) ?_
    show Steps p.tables e below (s₁.setTop (mkF m 52 #[.val (.ref a1), .val (.int p2), .val (.int p3), .val (.int p4), .val (.int p5), .val (.int p6), .val (.int (own_by p5 ((8 : Int32) * p2)))] [(.int (1 : Int32))])) _
    exact retN X0 hx (t := .boolean) Bd.returns (by simp) (hb hby d_method_4_code_52) hr
  · show Q_rmOk Z a1 p2 p3 p4 p5 p6 k1 L1 h0 n0 _ s₁.heap _
    rw [e0]
    exact ⟨rfl, N0, rfl⟩
set_option maxRecDepth 65536 in
set_option maxHeartbeats 40000000 in
theorem rmOk_tf (l : Launch) (Z : State) (a0 : Array Value) (hw : ∀ d ∈ tables_1, d.before a0 Z = true) (ws : List Jvm.Cond) (a1 : Addr) (p2 : Int32) (p3 : Int32) (p4 : Int32) (p5 : Int32) (p6 : Int32) (k1 : ClassId) (L1 : List Value) (h0 : Heap) (n0 : Nat) (Z0 : n0 ≤ h0.size) (V_a1 : Arv Z h0 a1 k1 .byte (p3 + p4) L1 (.int (0 : Int32))) (h0i : ¬ p2 < 0) (hv : p2 < p3 + p4 → L1.getD p2.toNatClampNeg (.int (0 : Int32)) = .int (own_want p2 p3 p5 p6)) (hc4 : p2 < (p3 + p4)) (hc11 : ¬ (p2 < p3)) :
    MetFree l (⟨"com/example/insistent_hook/insistenthook/store/KeysConcatPinLaw", "ok", "([BIIIII)Z"⟩ : MethodName) (head1 (Jvm.Cond.code (⟨"com/example/insistent_hook/insistenthook/store/KeysConcatPinLaw", "ok", "([BIIIII)Z"⟩ : MethodName) method_4_code 7 (some .boolean) :: ws) ({ frames := 0, cells := 0, slots := 0, locals := 0 } : Room)) (fun a U => a = #[(.ref a1), (.int p2), (.int p3), (.int p4), (.int p5), (.int p6)] ∧ Z.Warmed39 U.vm ∧ U.heap = h0) (fun _ _ _ _ _ => True) (fun _ U o U' => ∃ v L, o = .returned v ∧ Q_rmOk Z a1 p2 p3 p4 p5 p6 k1 L1 h0 n0 v U'.heap L ∧ FrameEnd U o U' L ({ frames := 0, cells := 0, slots := 0, locals := 0 } : Room).cells ({ frames := 0, cells := 0, slots := 0, locals := 0 } : Room).slots) := by
  refine MetFree.of_bodySF (plainFor_of_name pn_0) hisR ?_
  intro p e s m args below meth c s₁ Bd hml0 hP hK
  obtain ⟨rfl, hZ, hh⟩ := hP
  have hx := Bd.exec
  have hby := Bd.bytes
  have hml : c.maxLocals = 7 := hml0
  have hown : s.vm.findClass "com/example/insistent_hook/insistenthook/store/KeysConcatPinLaw" = some m.cls := findClass_of_methodNamed Bd.named
  have hnm := (name_of_methodNamed Bd.named Bd.method).1
  have X0 : Stand p l e ({ frames := 0, cells := 0, slots := 0, locals := 0 } : Room) s m #[(.ref a1), (.int p2), (.int p3), (.int p4), (.int p5), (.int p6)] below meth c s₁ [] 0 0 := Stand.of_body Bd
  have e0 : s₁.heap = h0 := by rw [← hh, Bd.state]; rfl
  have N0 := Fr.nil n0
  have pre0 : ∀ t, Steps p.tables e below (s₁.setTop (mkF m 0 #[.val (.ref a1), .val (.int p2), .val (.int p3), .val (.int p4), .val (.int p5), .val (.int p6), .unset] [])) t → Steps p.tables e below (s₁.setTop (entryFrame m #[(.ref a1), (.int p2), (.int p3), (.int p4), (.int p5), (.int p6)] 7)) t := fun t k => castTop (ef_4 m a1 p2 p3 p4 p5 p6) k
  obtain ⟨cl1, Ar1, q1, S1, M1, H1, G1⟩ := id V_a1
  have hin1 : ¬ (p2 < 0 ∨ cl1.slots.size ≤ (p2).toNatClampNeg) := inb_of S1 ⟨h0i, hc4⟩
  have hat1 : cl1.slots[(p2).toNatClampNeg]? = some (.int (own_want p2 p3 p5 p6)) := H1.at hin1 (hv hc4)
  obtain ⟨fs, hr, hrun, hended, hW, hsame⟩ := X0.leave (v := some (.int (1 : Int32))) (fun h => by rw [Bd.returns] at h; cases h)
  refine ⟨_, _, pre0 _ ?_, hrun, hended, _, _, rfl, ?_, ⟨_, rfl⟩, hW, hsame.mono (by decide) (by decide)⟩
  · show Steps p.tables e below (s₁.setTop (mkF m 0 #[.val (.ref a1), .val (.int p2), .val (.int p3), .val (.int p4), .val (.int p5), .val (.int p6), .unset] [])) _
    refine XS.iloadN X0.here hx rfl (hb hby d_method_4_code_0) rfl ?_
    show Steps p.tables e below (s₁.setTop (mkF m 1 #[.val (.ref a1), .val (.int p2), .val (.int p3), .val (.int p4), .val (.int p5), .val (.int p6), .unset] [(.int p2)])) _
    refine XS.iloadN X0.here hx rfl (hb hby d_method_4_code_1) rfl ?_
    show Steps p.tables e below (s₁.setTop (mkF m 2 #[.val (.ref a1), .val (.int p2), .val (.int p3), .val (.int p4), .val (.int p5), .val (.int p6), .unset] [(.int p3), (.int p2)])) _
    refine XS.iloadN X0.here hx rfl (hb hby d_method_4_code_2) rfl ?_
    show Steps p.tables e below (s₁.setTop (mkF m 3 #[.val (.ref a1), .val (.int p2), .val (.int p3), .val (.int p4), .val (.int p5), .val (.int p6), .unset] [(.int p4), (.int p3), (.int p2)])) _
    refine XS.iadd X0.here hx rfl (hb hby d_method_4_code_3) rfl ?_
    show Steps p.tables e below (s₁.setTop (mkF m 4 #[.val (.ref a1), .val (.int p2), .val (.int p3), .val (.int p4), .val (.int p5), .val (.int p6), .unset] [(.int (p3 + p4)), (.int p2)])) _
    refine XS.icmpYes X0.here hx rfl (pc0 := 4) (pc' := 9) rfl (hb hby d_method_4_code_4) rfl (tlt hc4).1 (by decide) (by decide) ?_
    show Steps p.tables e below (s₁.setTop (mkF m 9 #[.val (.ref a1), .val (.int p2), .val (.int p3), .val (.int p4), .val (.int p5), .val (.int p6), .unset] [])) _
    refine XS.iloadN X0.here hx rfl (hb hby d_method_4_code_9) rfl ?_
    show Steps p.tables e below (s₁.setTop (mkF m 10 #[.val (.ref a1), .val (.int p2), .val (.int p3), .val (.int p4), .val (.int p5), .val (.int p6), .unset] [(.int p2)])) _
    refine XS.iloadN X0.here hx rfl (hb hby d_method_4_code_10) rfl ?_
    show Steps p.tables e below (s₁.setTop (mkF m 11 #[.val (.ref a1), .val (.int p2), .val (.int p3), .val (.int p4), .val (.int p5), .val (.int p6), .unset] [(.int p3), (.int p2)])) _
    refine XS.icmpYes X0.here hx rfl (pc0 := 11) (pc' := 27) rfl (hb hby d_method_4_code_11) rfl (flt hc11).2.1 (by decide) (by decide) ?_
    show Steps p.tables e below (s₁.setTop (mkF m 27 #[.val (.ref a1), .val (.int p2), .val (.int p3), .val (.int p4), .val (.int p5), .val (.int p6), .unset] [])) _
    refine XS.iload X0.here hx rfl (hb hby d_method_4_code_27) rfl ?_
    show Steps p.tables e below (s₁.setTop (mkF m 29 #[.val (.ref a1), .val (.int p2), .val (.int p3), .val (.int p4), .val (.int p5), .val (.int p6), .unset] [(.int p6)])) _
    refine XS.bipush X0.here hx rfl (hb hby d_method_4_code_29) ?_
    show Steps p.tables e below (s₁.setTop (mkF m 31 #[.val (.ref a1), .val (.int p2), .val (.int p3), .val (.int p4), .val (.int p5), .val (.int p6), .unset] [(.int (8 : Int32)), (.int p6)])) _
    refine XS.iloadN X0.here hx rfl (hb hby d_method_4_code_31) rfl ?_
    show Steps p.tables e below (s₁.setTop (mkF m 32 #[.val (.ref a1), .val (.int p2), .val (.int p3), .val (.int p4), .val (.int p5), .val (.int p6), .unset] [(.int p2), (.int (8 : Int32)), (.int p6)])) _
    refine XS.iloadN X0.here hx rfl (hb hby d_method_4_code_32) rfl ?_
    show Steps p.tables e below (s₁.setTop (mkF m 33 #[.val (.ref a1), .val (.int p2), .val (.int p3), .val (.int p4), .val (.int p5), .val (.int p6), .unset] [(.int p3), (.int p2), (.int (8 : Int32)), (.int p6)])) _
    refine XS.isub X0.here hx rfl (hb hby d_method_4_code_33) rfl ?_
    show Steps p.tables e below (s₁.setTop (mkF m 34 #[.val (.ref a1), .val (.int p2), .val (.int p3), .val (.int p4), .val (.int p5), .val (.int p6), .unset] [(.int (p2 - p3)), (.int (8 : Int32)), (.int p6)])) _
    refine XS.imul X0.here hx rfl (hb hby d_method_4_code_34) rfl ?_
    show Steps p.tables e below (s₁.setTop (mkF m 35 #[.val (.ref a1), .val (.int p2), .val (.int p3), .val (.int p4), .val (.int p5), .val (.int p6), .unset] [(.int ((8 : Int32) * (p2 - p3))), (.int p6)])) _
    refine XS.iushr X0.here hx rfl (hb hby d_method_4_code_35) rfl ?_
    show Steps p.tables e below (s₁.setTop (mkF m 36 #[.val (.ref a1), .val (.int p2), .val (.int p3), .val (.int p4), .val (.int p5), .val (.int p6), .unset] [(.int ((p6.toUInt32 >>> (((8 : Int32) * (p2 - p3)) &&& 31).toUInt32).toInt32))])) _
    refine XS.i2b X0.here hx rfl (hb hby d_method_4_code_36) rfl ?_
    show Steps p.tables e below (s₁.setTop (mkF m 37 #[.val (.ref a1), .val (.int p2), .val (.int p3), .val (.int p4), .val (.int p5), .val (.int p6), .unset] [(.int (own_by p6 ((8 : Int32) * (p2 - p3))))])) _
    refine XS.istore X0.here hx rfl (hb hby d_method_4_code_37) rfl (l' := #[.val (.ref a1), .val (.int p2), .val (.int p3), .val (.int p4), .val (.int p5), .val (.int p6), .val (.int (own_by p6 ((8 : Int32) * (p2 - p3))))]) rfl ?_
    show Steps p.tables e below (s₁.setTop (mkF m 39 #[.val (.ref a1), .val (.int p2), .val (.int p3), .val (.int p4), .val (.int p5), .val (.int p6), .val (.int (own_by p6 ((8 : Int32) * (p2 - p3))))] [])) _
    refine XS.aloadN X0.here hx rfl (hb hby d_method_4_code_39) rfl rfl ?_
    show Steps p.tables e below (s₁.setTop (mkF m 40 #[.val (.ref a1), .val (.int p2), .val (.int p3), .val (.int p4), .val (.int p5), .val (.int p6), .val (.int (own_by p6 ((8 : Int32) * (p2 - p3))))] [(.ref a1)])) _
    refine XS.iloadN X0.here hx rfl (hb hby d_method_4_code_40) rfl ?_
    show Steps p.tables e below (s₁.setTop (mkF m 41 #[.val (.ref a1), .val (.int p2), .val (.int p3), .val (.int p4), .val (.int p5), .val (.int p6), .val (.int (own_by p6 ((8 : Int32) * (p2 - p3))))] [(.int p2), (.ref a1)])) _
    refine X0.baloadBytes hx (j := p2) (v := (.int (own_want p2 p3 p5 p6))) (by rw [e0]; exact Ar1.1) (State.isArrayOf_alike hZ.alike Ar1.2.1) Ar1.2.2 hin1 hat1 (g := (mkF m 41 #[.val (.ref a1), .val (.int p2), .val (.int p3), .val (.int p4), .val (.int p5), .val (.int p6), .val (.int (own_by p6 ((8 : Int32) * (p2 - p3))))] [(.int p2), (.ref a1)])) rfl rfl (hb hby d_method_4_code_41) _ ?_
    show Steps p.tables e below (s₁.setTop (mkF m 42 #[.val (.ref a1), .val (.int p2), .val (.int p3), .val (.int p4), .val (.int p5), .val (.int p6), .val (.int (own_by p6 ((8 : Int32) * (p2 - p3))))] [(.int (own_want p2 p3 p5 p6))])) _
    refine XS.iload X0.here hx rfl (hb hby d_method_4_code_42) rfl ?_
    show Steps p.tables e below (s₁.setTop (mkF m 44 #[.val (.ref a1), .val (.int p2), .val (.int p3), .val (.int p4), .val (.int p5), .val (.int p6), .val (.int (own_by p6 ((8 : Int32) * (p2 - p3))))] [(.int (own_by p6 ((8 : Int32) * (p2 - p3)))), (.int (own_want p2 p3 p5 p6))])) _
    refine XS.icmpNo X0.here hx rfl (hb hby d_method_4_code_44) rfl (teq (by unfold own_want; rw [if_neg hc11])).2 ?_
    show Steps p.tables e below (s₁.setTop (mkF m 47 #[.val (.ref a1), .val (.int p2), .val (.int p3), .val (.int p4), .val (.int p5), .val (.int p6), .val (.int (own_by p6 ((8 : Int32) * (p2 - p3))))] [])) _
    refine XS.iconst X0.here hx rfl (hb hby d_method_4_code_47) ?_
    show Steps p.tables e below (s₁.setTop (mkF m 48 #[.val (.ref a1), .val (.int p2), .val (.int p3), .val (.int p4), .val (.int p5), .val (.int p6), .val (.int (own_by p6 ((8 : Int32) * (p2 - p3))))] [(.int (1 : Int32))])) _
    refine XS.goto X0.here hx rfl (pc0 := 48) (pc' := 52) rfl (hb hby d_method_4_code_48) (by decide) (by decide) ?_
    show Steps p.tables e below (s₁.setTop (mkF m 52 #[.val (.ref a1), .val (.int p2), .val (.int p3), .val (.int p4), .val (.int p5), .val (.int p6), .val (.int (own_by p6 ((8 : Int32) * (p2 - p3))))] [(.int (1 : Int32))])) _
    exact retN X0 hx (t := .boolean) Bd.returns (by simp) (hb hby d_method_4_code_52) hr
  · show Q_rmOk Z a1 p2 p3 p4 p5 p6 k1 L1 h0 n0 _ s₁.heap _
    rw [e0]
    exact ⟨rfl, N0, rfl⟩
set_option maxRecDepth 65536 in
set_option maxHeartbeats 40000000 in
theorem rmOk_f (l : Launch) (Z : State) (a0 : Array Value) (hw : ∀ d ∈ tables_1, d.before a0 Z = true) (ws : List Jvm.Cond) (a1 : Addr) (p2 : Int32) (p3 : Int32) (p4 : Int32) (p5 : Int32) (p6 : Int32) (k1 : ClassId) (L1 : List Value) (h0 : Heap) (n0 : Nat) (Z0 : n0 ≤ h0.size) (V_a1 : Arv Z h0 a1 k1 .byte (p3 + p4) L1 (.int (0 : Int32))) (h0i : ¬ p2 < 0) (hv : p2 < p3 + p4 → L1.getD p2.toNatClampNeg (.int (0 : Int32)) = .int (own_want p2 p3 p5 p6)) (hc4 : ¬ (p2 < (p3 + p4))) :
    MetFree l (⟨"com/example/insistent_hook/insistenthook/store/KeysConcatPinLaw", "ok", "([BIIIII)Z"⟩ : MethodName) (head1 (Jvm.Cond.code (⟨"com/example/insistent_hook/insistenthook/store/KeysConcatPinLaw", "ok", "([BIIIII)Z"⟩ : MethodName) method_4_code 7 (some .boolean) :: ws) ({ frames := 0, cells := 0, slots := 0, locals := 0 } : Room)) (fun a U => a = #[(.ref a1), (.int p2), (.int p3), (.int p4), (.int p5), (.int p6)] ∧ Z.Warmed39 U.vm ∧ U.heap = h0) (fun _ _ _ _ _ => True) (fun _ U o U' => ∃ v L, o = .returned v ∧ Q_rmOk Z a1 p2 p3 p4 p5 p6 k1 L1 h0 n0 v U'.heap L ∧ FrameEnd U o U' L ({ frames := 0, cells := 0, slots := 0, locals := 0 } : Room).cells ({ frames := 0, cells := 0, slots := 0, locals := 0 } : Room).slots) := by
  refine MetFree.of_bodySF (plainFor_of_name pn_0) hisR ?_
  intro p e s m args below meth c s₁ Bd hml0 hP hK
  obtain ⟨rfl, hZ, hh⟩ := hP
  have hx := Bd.exec
  have hby := Bd.bytes
  have hml : c.maxLocals = 7 := hml0
  have hown : s.vm.findClass "com/example/insistent_hook/insistenthook/store/KeysConcatPinLaw" = some m.cls := findClass_of_methodNamed Bd.named
  have hnm := (name_of_methodNamed Bd.named Bd.method).1
  have X0 : Stand p l e ({ frames := 0, cells := 0, slots := 0, locals := 0 } : Room) s m #[(.ref a1), (.int p2), (.int p3), (.int p4), (.int p5), (.int p6)] below meth c s₁ [] 0 0 := Stand.of_body Bd
  have e0 : s₁.heap = h0 := by rw [← hh, Bd.state]; rfl
  have N0 := Fr.nil n0
  have pre0 : ∀ t, Steps p.tables e below (s₁.setTop (mkF m 0 #[.val (.ref a1), .val (.int p2), .val (.int p3), .val (.int p4), .val (.int p5), .val (.int p6), .unset] [])) t → Steps p.tables e below (s₁.setTop (entryFrame m #[(.ref a1), (.int p2), (.int p3), (.int p4), (.int p5), (.int p6)] 7)) t := fun t k => castTop (ef_4 m a1 p2 p3 p4 p5 p6) k
  obtain ⟨fs, hr, hrun, hended, hW, hsame⟩ := X0.leave (v := some (.int (1 : Int32))) (fun h => by rw [Bd.returns] at h; cases h)
  refine ⟨_, _, pre0 _ ?_, hrun, hended, _, _, rfl, ?_, ⟨_, rfl⟩, hW, hsame.mono (by decide) (by decide)⟩
  · show Steps p.tables e below (s₁.setTop (mkF m 0 #[.val (.ref a1), .val (.int p2), .val (.int p3), .val (.int p4), .val (.int p5), .val (.int p6), .unset] [])) _
    refine XS.iloadN X0.here hx rfl (hb hby d_method_4_code_0) rfl ?_
    show Steps p.tables e below (s₁.setTop (mkF m 1 #[.val (.ref a1), .val (.int p2), .val (.int p3), .val (.int p4), .val (.int p5), .val (.int p6), .unset] [(.int p2)])) _
    refine XS.iloadN X0.here hx rfl (hb hby d_method_4_code_1) rfl ?_
    show Steps p.tables e below (s₁.setTop (mkF m 2 #[.val (.ref a1), .val (.int p2), .val (.int p3), .val (.int p4), .val (.int p5), .val (.int p6), .unset] [(.int p3), (.int p2)])) _
    refine XS.iloadN X0.here hx rfl (hb hby d_method_4_code_2) rfl ?_
    show Steps p.tables e below (s₁.setTop (mkF m 3 #[.val (.ref a1), .val (.int p2), .val (.int p3), .val (.int p4), .val (.int p5), .val (.int p6), .unset] [(.int p4), (.int p3), (.int p2)])) _
    refine XS.iadd X0.here hx rfl (hb hby d_method_4_code_3) rfl ?_
    show Steps p.tables e below (s₁.setTop (mkF m 4 #[.val (.ref a1), .val (.int p2), .val (.int p3), .val (.int p4), .val (.int p5), .val (.int p6), .unset] [(.int (p3 + p4)), (.int p2)])) _
    refine XS.icmpNo X0.here hx rfl (hb hby d_method_4_code_4) rfl (flt hc4).1 ?_
    show Steps p.tables e below (s₁.setTop (mkF m 7 #[.val (.ref a1), .val (.int p2), .val (.int p3), .val (.int p4), .val (.int p5), .val (.int p6), .unset] [])) _
    refine XS.iconst X0.here hx rfl (hb hby d_method_4_code_7) ?_
    show Steps p.tables e below (s₁.setTop (mkF m 8 #[.val (.ref a1), .val (.int p2), .val (.int p3), .val (.int p4), .val (.int p5), .val (.int p6), .unset] [(.int (1 : Int32))])) _
    exact retN X0 hx (t := .boolean) Bd.returns (by simp) (hb hby d_method_4_code_8) hr
  · show Q_rmOk Z a1 p2 p3 p4 p5 p6 k1 L1 h0 n0 _ s₁.heap _
    rw [e0]
    exact ⟨rfl, N0, rfl⟩
theorem rmOk (l : Launch) (Z : State) (a0 : Array Value) (hw : ∀ d ∈ tables_1, d.before a0 Z = true) (ws : List Jvm.Cond) (a1 : Addr) (p2 : Int32) (p3 : Int32) (p4 : Int32) (p5 : Int32) (p6 : Int32) (k1 : ClassId) (L1 : List Value) (h0 : Heap) (n0 : Nat) (Z0 : n0 ≤ h0.size) (V_a1 : Arv Z h0 a1 k1 .byte (p3 + p4) L1 (.int (0 : Int32))) (h0i : ¬ p2 < 0) (hv : p2 < p3 + p4 → L1.getD p2.toNatClampNeg (.int (0 : Int32)) = .int (own_want p2 p3 p5 p6)) :
    MetFree l (⟨"com/example/insistent_hook/insistenthook/store/KeysConcatPinLaw", "ok", "([BIIIII)Z"⟩ : MethodName) (head1 (Jvm.Cond.code (⟨"com/example/insistent_hook/insistenthook/store/KeysConcatPinLaw", "ok", "([BIIIII)Z"⟩ : MethodName) method_4_code 7 (some .boolean) :: ws) ({ frames := 0, cells := 0, slots := 0, locals := 0 } : Room)) (fun a U => a = #[(.ref a1), (.int p2), (.int p3), (.int p4), (.int p5), (.int p6)] ∧ Z.Warmed39 U.vm ∧ U.heap = h0) (fun _ _ _ _ _ => True) (fun _ U o U' => ∃ v L, o = .returned v ∧ Q_rmOk Z a1 p2 p3 p4 p5 p6 k1 L1 h0 n0 v U'.heap L ∧ FrameEnd U o U' L ({ frames := 0, cells := 0, slots := 0, locals := 0 } : Room).cells ({ frames := 0, cells := 0, slots := 0, locals := 0 } : Room).slots) := by
  by_cases hc4 : p2 < (p3 + p4)
  · skip
    by_cases hc11 : p2 < p3
    · skip
      exact rmOk_tt l Z a0 hw ws a1 p2 p3 p4 p5 p6 k1 L1 h0 n0 Z0 V_a1 h0i hv hc4 hc11
    · skip
      exact rmOk_tf l Z a0 hw ws a1 p2 p3 p4 p5 p6 k1 L1 h0 n0 Z0 V_a1 h0i hv hc4 hc11
  · skip
    exact rmOk_f l Z a0 hw ws a1 p2 p3 p4 p5 p6 k1 L1 h0 n0 Z0 V_a1 h0i hv hc4
theorem d_method_5_code_0 : decode method_5_code 0 = .ok (.aload_n 0, 1) := by decide +kernel
theorem d_method_5_code_1 : decode method_5_code 1 = .ok (.arraylength, 1) := by decide +kernel
theorem d_method_5_code_2 : decode method_5_code 2 = .ok (.iload_n 2, 1) := by decide +kernel
theorem d_method_5_code_3 : decode method_5_code 3 = .ok (.if_icmp .ne 68, 3) := by decide +kernel
theorem d_method_5_code_6 : decode method_5_code 6 = .ok (.iload_n 2, 1) := by decide +kernel
theorem d_method_5_code_7 : decode method_5_code 7 = .ok (.iconst 1, 1) := by decide +kernel
theorem d_method_5_code_8 : decode method_5_code 8 = .ok (.if_icmp .lt 11, 3) := by decide +kernel
theorem d_method_5_code_19 : decode method_5_code 19 = .ok (.iload_n 2, 1) := by decide +kernel
theorem d_method_5_code_20 : decode method_5_code 20 = .ok (.iconst 2, 1) := by decide +kernel
theorem d_method_5_code_21 : decode method_5_code 21 = .ok (.if_icmp .lt 14, 3) := by decide +kernel
theorem d_method_5_code_35 : decode method_5_code 35 = .ok (.iload_n 2, 1) := by decide +kernel
theorem d_method_5_code_36 : decode method_5_code 36 = .ok (.iconst 3, 1) := by decide +kernel
theorem d_method_5_code_37 : decode method_5_code 37 = .ok (.if_icmp .lt 14, 3) := by decide +kernel
theorem d_method_5_code_51 : decode method_5_code 51 = .ok (.iload_n 2, 1) := by decide +kernel
theorem d_method_5_code_52 : decode method_5_code 52 = .ok (.iconst 4, 1) := by decide +kernel
theorem d_method_5_code_53 : decode method_5_code 53 = .ok (.if_icmp .lt 14, 3) := by decide +kernel
theorem d_method_5_code_67 : decode method_5_code 67 = .ok (.iconst 1, 1) := by decide +kernel
theorem d_method_5_code_68 : decode method_5_code 68 = .ok (.goto 4, 3) := by decide +kernel
theorem d_method_5_code_72 : decode method_5_code 72 = .ok (.ireturn, 1) := by decide +kernel
theorem d_method_5_code_11 : decode method_5_code 11 = .ok (.aload_n 0, 1) := by decide +kernel
theorem d_method_5_code_12 : decode method_5_code 12 = .ok (.iconst 0, 1) := by decide +kernel
theorem d_method_5_code_13 : decode method_5_code 13 = .ok (.baload, 1) := by decide +kernel
theorem d_method_5_code_14 : decode method_5_code 14 = .ok (.iload_n 1, 1) := by decide +kernel
theorem d_method_5_code_15 : decode method_5_code 15 = .ok (.i2b, 1) := by decide +kernel
theorem d_method_5_code_16 : decode method_5_code 16 = .ok (.if_icmp .ne 55, 3) := by decide +kernel
theorem d_method_5_code_24 : decode method_5_code 24 = .ok (.aload_n 0, 1) := by decide +kernel
theorem d_method_5_code_25 : decode method_5_code 25 = .ok (.iconst 1, 1) := by decide +kernel
theorem d_method_5_code_26 : decode method_5_code 26 = .ok (.baload, 1) := by decide +kernel
theorem d_method_5_code_27 : decode method_5_code 27 = .ok (.iload_n 1, 1) := by decide +kernel
theorem d_method_5_code_28 : decode method_5_code 28 = .ok (.bipush 8, 2) := by decide +kernel
theorem d_method_5_code_30 : decode method_5_code 30 = .ok (.iushr, 1) := by decide +kernel
theorem d_method_5_code_31 : decode method_5_code 31 = .ok (.i2b, 1) := by decide +kernel
theorem d_method_5_code_32 : decode method_5_code 32 = .ok (.if_icmp .ne 39, 3) := by decide +kernel
theorem d_method_5_code_40 : decode method_5_code 40 = .ok (.aload_n 0, 1) := by decide +kernel
theorem d_method_5_code_41 : decode method_5_code 41 = .ok (.iconst 2, 1) := by decide +kernel
theorem d_method_5_code_42 : decode method_5_code 42 = .ok (.baload, 1) := by decide +kernel
theorem d_method_5_code_43 : decode method_5_code 43 = .ok (.iload_n 1, 1) := by decide +kernel
theorem d_method_5_code_44 : decode method_5_code 44 = .ok (.bipush 16, 2) := by decide +kernel
theorem d_method_5_code_46 : decode method_5_code 46 = .ok (.iushr, 1) := by decide +kernel
theorem d_method_5_code_47 : decode method_5_code 47 = .ok (.i2b, 1) := by decide +kernel
theorem d_method_5_code_48 : decode method_5_code 48 = .ok (.if_icmp .ne 23, 3) := by decide +kernel
theorem d_method_5_code_56 : decode method_5_code 56 = .ok (.aload_n 0, 1) := by decide +kernel
theorem d_method_5_code_57 : decode method_5_code 57 = .ok (.iconst 3, 1) := by decide +kernel
theorem d_method_5_code_58 : decode method_5_code 58 = .ok (.baload, 1) := by decide +kernel
theorem d_method_5_code_59 : decode method_5_code 59 = .ok (.iload_n 1, 1) := by decide +kernel
theorem d_method_5_code_60 : decode method_5_code 60 = .ok (.bipush 24, 2) := by decide +kernel
theorem d_method_5_code_62 : decode method_5_code 62 = .ok (.iushr, 1) := by decide +kernel
theorem d_method_5_code_63 : decode method_5_code 63 = .ok (.i2b, 1) := by decide +kernel
theorem d_method_5_code_64 : decode method_5_code 64 = .ok (.if_icmp .ne 7, 3) := by decide +kernel
def Q_rmSm (Z : State) (a1 : Addr) (p2 : Int32) (n1 : Int32) (k1 : ClassId) (h0 : Heap) (n0 : Nat) (v : Option Value) (h : Heap) (L : List Loc) : Prop := v = some (.int (1 : Int32)) ∧ Fr n0 L ∧ h = h0
theorem ef_5 (m : MethodId) (x0 : Addr) (x1 : Int32) (x2 : Int32) : entryFrame m #[(.ref x0), (.int x1), (.int x2)] 3 = mkF m 0 #[.val (.ref x0), .val (.int x1), .val (.int x2)] [] := by first | (simp [entryFrame, mkF, argsToLocals, Value.category]; done) | rfl
set_option maxRecDepth 65536 in
set_option maxHeartbeats 40000000 in
theorem rmSm_tttt (l : Launch) (Z : State) (a0 : Array Value) (hw : ∀ d ∈ tables_1, d.before a0 Z = true) (ws : List Jvm.Cond) (a1 : Addr) (p2 : Int32) (n1 : Int32) (k1 : ClassId) (h0 : Heap) (n0 : Nat) (Z0 : n0 ≤ h0.size) (V_a1 : Arv Z h0 a1 k1 .byte n1 (own_bs p2) (.int (0 : Int32))) (hn : own_B n1 4) (hc8 : n1 < (1 : Int32)) (hc21 : n1 < (2 : Int32)) (hc37 : n1 < (3 : Int32)) (hc53 : n1 < (4 : Int32)) :
    MetFree l (⟨"com/example/insistent_hook/insistenthook/store/KeysConcatPinLaw", "same", "([BII)Z"⟩ : MethodName) (head1 (Jvm.Cond.code (⟨"com/example/insistent_hook/insistenthook/store/KeysConcatPinLaw", "same", "([BII)Z"⟩ : MethodName) method_5_code 3 (some .boolean) :: ws) ({ frames := 0, cells := 0, slots := 0, locals := 0 } : Room)) (fun a U => a = #[(.ref a1), (.int p2), (.int n1)] ∧ Z.Warmed39 U.vm ∧ U.heap = h0) (fun _ _ _ _ _ => True) (fun _ U o U' => ∃ v L, o = .returned v ∧ Q_rmSm Z a1 p2 n1 k1 h0 n0 v U'.heap L ∧ FrameEnd U o U' L ({ frames := 0, cells := 0, slots := 0, locals := 0 } : Room).cells ({ frames := 0, cells := 0, slots := 0, locals := 0 } : Room).slots) := by
  refine MetFree.of_bodySF (plainFor_of_name pn_0) hisR ?_
  intro p e s m args below meth c s₁ Bd hml0 hP hK
  obtain ⟨rfl, hZ, hh⟩ := hP
  have hx := Bd.exec
  have hby := Bd.bytes
  have hml : c.maxLocals = 3 := hml0
  have hown : s.vm.findClass "com/example/insistent_hook/insistenthook/store/KeysConcatPinLaw" = some m.cls := findClass_of_methodNamed Bd.named
  have hnm := (name_of_methodNamed Bd.named Bd.method).1
  have X0 : Stand p l e ({ frames := 0, cells := 0, slots := 0, locals := 0 } : Room) s m #[(.ref a1), (.int p2), (.int n1)] below meth c s₁ [] 0 0 := Stand.of_body Bd
  have e0 : s₁.heap = h0 := by rw [← hh, Bd.state]; rfl
  have N0 := Fr.nil n0
  have pre0 : ∀ t, Steps p.tables e below (s₁.setTop (mkF m 0 #[.val (.ref a1), .val (.int p2), .val (.int n1)] [])) t → Steps p.tables e below (s₁.setTop (entryFrame m #[(.ref a1), (.int p2), (.int n1)] 3)) t := fun t k => castTop (ef_5 m a1 p2 n1) k
  obtain ⟨cl1, Ar1, q1, S1, M1, H1, G1⟩ := id V_a1
  obtain ⟨fs, hr, hrun, hended, hW, hsame⟩ := X0.leave (v := some (.int (1 : Int32))) (fun h => by rw [Bd.returns] at h; cases h)
  refine ⟨_, _, pre0 _ ?_, hrun, hended, _, _, rfl, ?_, ⟨_, rfl⟩, hW, hsame.mono (by decide) (by decide)⟩
  · show Steps p.tables e below (s₁.setTop (mkF m 0 #[.val (.ref a1), .val (.int p2), .val (.int n1)] [])) _
    refine XS.aloadN X0.here hx rfl (hb hby d_method_5_code_0) rfl rfl ?_
    show Steps p.tables e below (s₁.setTop (mkF m 1 #[.val (.ref a1), .val (.int p2), .val (.int n1)] [(.ref a1)])) _
    refine X0.arraylength hx (by rw [e0]; exact Ar1.1) (State.isArrayOf_alike hZ.alike Ar1.2.1) (g := (mkF m 1 #[.val (.ref a1), .val (.int p2), .val (.int n1)] [(.ref a1)])) rfl rfl (hb hby d_method_5_code_1) _ ?_
    rw [len_of S1 M1]
    show Steps p.tables e below (s₁.setTop (mkF m 2 #[.val (.ref a1), .val (.int p2), .val (.int n1)] [(.int n1)])) _
    refine XS.iloadN X0.here hx rfl (hb hby d_method_5_code_2) rfl ?_
    show Steps p.tables e below (s₁.setTop (mkF m 3 #[.val (.ref a1), .val (.int p2), .val (.int n1)] [(.int n1), (.int n1)])) _
    refine XS.icmpNo X0.here hx rfl (hb hby d_method_5_code_3) rfl (teq (rfl : n1 = n1)).2 ?_
    show Steps p.tables e below (s₁.setTop (mkF m 6 #[.val (.ref a1), .val (.int p2), .val (.int n1)] [])) _
    refine XS.iloadN X0.here hx rfl (hb hby d_method_5_code_6) rfl ?_
    show Steps p.tables e below (s₁.setTop (mkF m 7 #[.val (.ref a1), .val (.int p2), .val (.int n1)] [(.int n1)])) _
    refine XS.iconst X0.here hx rfl (hb hby d_method_5_code_7) ?_
    show Steps p.tables e below (s₁.setTop (mkF m 8 #[.val (.ref a1), .val (.int p2), .val (.int n1)] [(.int (1 : Int32)), (.int n1)])) _
    refine XS.icmpYes X0.here hx rfl (pc0 := 8) (pc' := 19) rfl (hb hby d_method_5_code_8) rfl (tlt hc8).1 (by decide) (by decide) ?_
    show Steps p.tables e below (s₁.setTop (mkF m 19 #[.val (.ref a1), .val (.int p2), .val (.int n1)] [])) _
    refine XS.iloadN X0.here hx rfl (hb hby d_method_5_code_19) rfl ?_
    show Steps p.tables e below (s₁.setTop (mkF m 20 #[.val (.ref a1), .val (.int p2), .val (.int n1)] [(.int n1)])) _
    refine XS.iconst X0.here hx rfl (hb hby d_method_5_code_20) ?_
    show Steps p.tables e below (s₁.setTop (mkF m 21 #[.val (.ref a1), .val (.int p2), .val (.int n1)] [(.int (2 : Int32)), (.int n1)])) _
    refine XS.icmpYes X0.here hx rfl (pc0 := 21) (pc' := 35) rfl (hb hby d_method_5_code_21) rfl (tlt hc21).1 (by decide) (by decide) ?_
    show Steps p.tables e below (s₁.setTop (mkF m 35 #[.val (.ref a1), .val (.int p2), .val (.int n1)] [])) _
    refine XS.iloadN X0.here hx rfl (hb hby d_method_5_code_35) rfl ?_
    show Steps p.tables e below (s₁.setTop (mkF m 36 #[.val (.ref a1), .val (.int p2), .val (.int n1)] [(.int n1)])) _
    refine XS.iconst X0.here hx rfl (hb hby d_method_5_code_36) ?_
    show Steps p.tables e below (s₁.setTop (mkF m 37 #[.val (.ref a1), .val (.int p2), .val (.int n1)] [(.int (3 : Int32)), (.int n1)])) _
    refine XS.icmpYes X0.here hx rfl (pc0 := 37) (pc' := 51) rfl (hb hby d_method_5_code_37) rfl (tlt hc37).1 (by decide) (by decide) ?_
    show Steps p.tables e below (s₁.setTop (mkF m 51 #[.val (.ref a1), .val (.int p2), .val (.int n1)] [])) _
    refine XS.iloadN X0.here hx rfl (hb hby d_method_5_code_51) rfl ?_
    show Steps p.tables e below (s₁.setTop (mkF m 52 #[.val (.ref a1), .val (.int p2), .val (.int n1)] [(.int n1)])) _
    refine XS.iconst X0.here hx rfl (hb hby d_method_5_code_52) ?_
    show Steps p.tables e below (s₁.setTop (mkF m 53 #[.val (.ref a1), .val (.int p2), .val (.int n1)] [(.int (4 : Int32)), (.int n1)])) _
    refine XS.icmpYes X0.here hx rfl (pc0 := 53) (pc' := 67) rfl (hb hby d_method_5_code_53) rfl (tlt hc53).1 (by decide) (by decide) ?_
    show Steps p.tables e below (s₁.setTop (mkF m 67 #[.val (.ref a1), .val (.int p2), .val (.int n1)] [])) _
    refine XS.iconst X0.here hx rfl (hb hby d_method_5_code_67) ?_
    show Steps p.tables e below (s₁.setTop (mkF m 68 #[.val (.ref a1), .val (.int p2), .val (.int n1)] [(.int (1 : Int32))])) _
    refine XS.goto X0.here hx rfl (pc0 := 68) (pc' := 72) rfl (hb hby d_method_5_code_68) (by decide) (by decide) ?_
    show Steps p.tables e below (s₁.setTop (mkF m 72 #[.val (.ref a1), .val (.int p2), .val (.int n1)] [(.int (1 : Int32))])) _
    exact retN X0 hx (t := .boolean) Bd.returns (by simp) (hb hby d_method_5_code_72) hr
  · show Q_rmSm Z a1 p2 n1 k1 h0 n0 _ s₁.heap _
    rw [e0]
    exact ⟨rfl, N0, rfl⟩
set_option maxRecDepth 65536 in
set_option maxHeartbeats 40000000 in
theorem rmSm_fttt (l : Launch) (Z : State) (a0 : Array Value) (hw : ∀ d ∈ tables_1, d.before a0 Z = true) (ws : List Jvm.Cond) (a1 : Addr) (p2 : Int32) (n1 : Int32) (k1 : ClassId) (h0 : Heap) (n0 : Nat) (Z0 : n0 ≤ h0.size) (V_a1 : Arv Z h0 a1 k1 .byte n1 (own_bs p2) (.int (0 : Int32))) (hn : own_B n1 4) (hc8 : ¬ (n1 < (1 : Int32))) (hc21 : n1 < (2 : Int32)) (hc37 : n1 < (3 : Int32)) (hc53 : n1 < (4 : Int32)) :
    MetFree l (⟨"com/example/insistent_hook/insistenthook/store/KeysConcatPinLaw", "same", "([BII)Z"⟩ : MethodName) (head1 (Jvm.Cond.code (⟨"com/example/insistent_hook/insistenthook/store/KeysConcatPinLaw", "same", "([BII)Z"⟩ : MethodName) method_5_code 3 (some .boolean) :: ws) ({ frames := 0, cells := 0, slots := 0, locals := 0 } : Room)) (fun a U => a = #[(.ref a1), (.int p2), (.int n1)] ∧ Z.Warmed39 U.vm ∧ U.heap = h0) (fun _ _ _ _ _ => True) (fun _ U o U' => ∃ v L, o = .returned v ∧ Q_rmSm Z a1 p2 n1 k1 h0 n0 v U'.heap L ∧ FrameEnd U o U' L ({ frames := 0, cells := 0, slots := 0, locals := 0 } : Room).cells ({ frames := 0, cells := 0, slots := 0, locals := 0 } : Room).slots) := by
  refine MetFree.of_bodySF (plainFor_of_name pn_0) hisR ?_
  intro p e s m args below meth c s₁ Bd hml0 hP hK
  obtain ⟨rfl, hZ, hh⟩ := hP
  have hx := Bd.exec
  have hby := Bd.bytes
  have hml : c.maxLocals = 3 := hml0
  have hown : s.vm.findClass "com/example/insistent_hook/insistenthook/store/KeysConcatPinLaw" = some m.cls := findClass_of_methodNamed Bd.named
  have hnm := (name_of_methodNamed Bd.named Bd.method).1
  have X0 : Stand p l e ({ frames := 0, cells := 0, slots := 0, locals := 0 } : Room) s m #[(.ref a1), (.int p2), (.int n1)] below meth c s₁ [] 0 0 := Stand.of_body Bd
  have e0 : s₁.heap = h0 := by rw [← hh, Bd.state]; rfl
  have N0 := Fr.nil n0
  have pre0 : ∀ t, Steps p.tables e below (s₁.setTop (mkF m 0 #[.val (.ref a1), .val (.int p2), .val (.int n1)] [])) t → Steps p.tables e below (s₁.setTop (entryFrame m #[(.ref a1), (.int p2), (.int n1)] 3)) t := fun t k => castTop (ef_5 m a1 p2 n1) k
  obtain ⟨cl1, Ar1, q1, S1, M1, H1, G1⟩ := id V_a1
  obtain ⟨cl2, Ar2, q2, S2, M2, H2, G2⟩ := id V_a1
  have hin2 : ¬ ((0 : Int32) < 0 ∨ cl2.slots.size ≤ ((0 : Int32)).toNatClampNeg) := inb_of S2 ⟨by decide, (own_ge _ (1 : Int32) n1 (by decide) hc8)⟩
  have hat2 : cl2.slots[((0 : Int32)).toNatClampNeg]? = some (.int (own_by0 p2)) := H2.at hin2 rfl
  obtain ⟨fs, hr, hrun, hended, hW, hsame⟩ := X0.leave (v := some (.int (1 : Int32))) (fun h => by rw [Bd.returns] at h; cases h)
  refine ⟨_, _, pre0 _ ?_, hrun, hended, _, _, rfl, ?_, ⟨_, rfl⟩, hW, hsame.mono (by decide) (by decide)⟩
  · show Steps p.tables e below (s₁.setTop (mkF m 0 #[.val (.ref a1), .val (.int p2), .val (.int n1)] [])) _
    refine XS.aloadN X0.here hx rfl (hb hby d_method_5_code_0) rfl rfl ?_
    show Steps p.tables e below (s₁.setTop (mkF m 1 #[.val (.ref a1), .val (.int p2), .val (.int n1)] [(.ref a1)])) _
    refine X0.arraylength hx (by rw [e0]; exact Ar1.1) (State.isArrayOf_alike hZ.alike Ar1.2.1) (g := (mkF m 1 #[.val (.ref a1), .val (.int p2), .val (.int n1)] [(.ref a1)])) rfl rfl (hb hby d_method_5_code_1) _ ?_
    rw [len_of S1 M1]
    show Steps p.tables e below (s₁.setTop (mkF m 2 #[.val (.ref a1), .val (.int p2), .val (.int n1)] [(.int n1)])) _
    refine XS.iloadN X0.here hx rfl (hb hby d_method_5_code_2) rfl ?_
    show Steps p.tables e below (s₁.setTop (mkF m 3 #[.val (.ref a1), .val (.int p2), .val (.int n1)] [(.int n1), (.int n1)])) _
    refine XS.icmpNo X0.here hx rfl (hb hby d_method_5_code_3) rfl (teq (rfl : n1 = n1)).2 ?_
    show Steps p.tables e below (s₁.setTop (mkF m 6 #[.val (.ref a1), .val (.int p2), .val (.int n1)] [])) _
    refine XS.iloadN X0.here hx rfl (hb hby d_method_5_code_6) rfl ?_
    show Steps p.tables e below (s₁.setTop (mkF m 7 #[.val (.ref a1), .val (.int p2), .val (.int n1)] [(.int n1)])) _
    refine XS.iconst X0.here hx rfl (hb hby d_method_5_code_7) ?_
    show Steps p.tables e below (s₁.setTop (mkF m 8 #[.val (.ref a1), .val (.int p2), .val (.int n1)] [(.int (1 : Int32)), (.int n1)])) _
    refine XS.icmpNo X0.here hx rfl (hb hby d_method_5_code_8) rfl (flt hc8).1 ?_
    show Steps p.tables e below (s₁.setTop (mkF m 11 #[.val (.ref a1), .val (.int p2), .val (.int n1)] [])) _
    refine XS.aloadN X0.here hx rfl (hb hby d_method_5_code_11) rfl rfl ?_
    show Steps p.tables e below (s₁.setTop (mkF m 12 #[.val (.ref a1), .val (.int p2), .val (.int n1)] [(.ref a1)])) _
    refine XS.iconst X0.here hx rfl (hb hby d_method_5_code_12) ?_
    show Steps p.tables e below (s₁.setTop (mkF m 13 #[.val (.ref a1), .val (.int p2), .val (.int n1)] [(.int (0 : Int32)), (.ref a1)])) _
    refine X0.baloadBytes hx (j := (0 : Int32)) (v := (.int (own_by0 p2))) (by rw [e0]; exact Ar2.1) (State.isArrayOf_alike hZ.alike Ar2.2.1) Ar2.2.2 hin2 hat2 (g := (mkF m 13 #[.val (.ref a1), .val (.int p2), .val (.int n1)] [(.int (0 : Int32)), (.ref a1)])) rfl rfl (hb hby d_method_5_code_13) _ ?_
    show Steps p.tables e below (s₁.setTop (mkF m 14 #[.val (.ref a1), .val (.int p2), .val (.int n1)] [(.int (own_by0 p2))])) _
    refine XS.iloadN X0.here hx rfl (hb hby d_method_5_code_14) rfl ?_
    show Steps p.tables e below (s₁.setTop (mkF m 15 #[.val (.ref a1), .val (.int p2), .val (.int n1)] [(.int p2), (.int (own_by0 p2))])) _
    refine XS.i2b X0.here hx rfl (hb hby d_method_5_code_15) rfl ?_
    show Steps p.tables e below (s₁.setTop (mkF m 16 #[.val (.ref a1), .val (.int p2), .val (.int n1)] [(.int (own_by0 p2)), (.int (own_by0 p2))])) _
    refine XS.icmpNo X0.here hx rfl (hb hby d_method_5_code_16) rfl (teq (rfl : (own_by0 p2) = (own_by0 p2))).2 ?_
    show Steps p.tables e below (s₁.setTop (mkF m 19 #[.val (.ref a1), .val (.int p2), .val (.int n1)] [])) _
    refine XS.iloadN X0.here hx rfl (hb hby d_method_5_code_19) rfl ?_
    show Steps p.tables e below (s₁.setTop (mkF m 20 #[.val (.ref a1), .val (.int p2), .val (.int n1)] [(.int n1)])) _
    refine XS.iconst X0.here hx rfl (hb hby d_method_5_code_20) ?_
    show Steps p.tables e below (s₁.setTop (mkF m 21 #[.val (.ref a1), .val (.int p2), .val (.int n1)] [(.int (2 : Int32)), (.int n1)])) _
    refine XS.icmpYes X0.here hx rfl (pc0 := 21) (pc' := 35) rfl (hb hby d_method_5_code_21) rfl (tlt hc21).1 (by decide) (by decide) ?_
    show Steps p.tables e below (s₁.setTop (mkF m 35 #[.val (.ref a1), .val (.int p2), .val (.int n1)] [])) _
    refine XS.iloadN X0.here hx rfl (hb hby d_method_5_code_35) rfl ?_
    show Steps p.tables e below (s₁.setTop (mkF m 36 #[.val (.ref a1), .val (.int p2), .val (.int n1)] [(.int n1)])) _
    refine XS.iconst X0.here hx rfl (hb hby d_method_5_code_36) ?_
    show Steps p.tables e below (s₁.setTop (mkF m 37 #[.val (.ref a1), .val (.int p2), .val (.int n1)] [(.int (3 : Int32)), (.int n1)])) _
    refine XS.icmpYes X0.here hx rfl (pc0 := 37) (pc' := 51) rfl (hb hby d_method_5_code_37) rfl (tlt hc37).1 (by decide) (by decide) ?_
    show Steps p.tables e below (s₁.setTop (mkF m 51 #[.val (.ref a1), .val (.int p2), .val (.int n1)] [])) _
    refine XS.iloadN X0.here hx rfl (hb hby d_method_5_code_51) rfl ?_
    show Steps p.tables e below (s₁.setTop (mkF m 52 #[.val (.ref a1), .val (.int p2), .val (.int n1)] [(.int n1)])) _
    refine XS.iconst X0.here hx rfl (hb hby d_method_5_code_52) ?_
    show Steps p.tables e below (s₁.setTop (mkF m 53 #[.val (.ref a1), .val (.int p2), .val (.int n1)] [(.int (4 : Int32)), (.int n1)])) _
    refine XS.icmpYes X0.here hx rfl (pc0 := 53) (pc' := 67) rfl (hb hby d_method_5_code_53) rfl (tlt hc53).1 (by decide) (by decide) ?_
    show Steps p.tables e below (s₁.setTop (mkF m 67 #[.val (.ref a1), .val (.int p2), .val (.int n1)] [])) _
    refine XS.iconst X0.here hx rfl (hb hby d_method_5_code_67) ?_
    show Steps p.tables e below (s₁.setTop (mkF m 68 #[.val (.ref a1), .val (.int p2), .val (.int n1)] [(.int (1 : Int32))])) _
    refine XS.goto X0.here hx rfl (pc0 := 68) (pc' := 72) rfl (hb hby d_method_5_code_68) (by decide) (by decide) ?_
    show Steps p.tables e below (s₁.setTop (mkF m 72 #[.val (.ref a1), .val (.int p2), .val (.int n1)] [(.int (1 : Int32))])) _
    exact retN X0 hx (t := .boolean) Bd.returns (by simp) (hb hby d_method_5_code_72) hr
  · show Q_rmSm Z a1 p2 n1 k1 h0 n0 _ s₁.heap _
    rw [e0]
    exact ⟨rfl, N0, rfl⟩
set_option maxRecDepth 65536 in
set_option maxHeartbeats 40000000 in
theorem rmSm_fftt (l : Launch) (Z : State) (a0 : Array Value) (hw : ∀ d ∈ tables_1, d.before a0 Z = true) (ws : List Jvm.Cond) (a1 : Addr) (p2 : Int32) (n1 : Int32) (k1 : ClassId) (h0 : Heap) (n0 : Nat) (Z0 : n0 ≤ h0.size) (V_a1 : Arv Z h0 a1 k1 .byte n1 (own_bs p2) (.int (0 : Int32))) (hn : own_B n1 4) (hc8 : ¬ (n1 < (1 : Int32))) (hc21 : ¬ (n1 < (2 : Int32))) (hc37 : n1 < (3 : Int32)) (hc53 : n1 < (4 : Int32)) :
    MetFree l (⟨"com/example/insistent_hook/insistenthook/store/KeysConcatPinLaw", "same", "([BII)Z"⟩ : MethodName) (head1 (Jvm.Cond.code (⟨"com/example/insistent_hook/insistenthook/store/KeysConcatPinLaw", "same", "([BII)Z"⟩ : MethodName) method_5_code 3 (some .boolean) :: ws) ({ frames := 0, cells := 0, slots := 0, locals := 0 } : Room)) (fun a U => a = #[(.ref a1), (.int p2), (.int n1)] ∧ Z.Warmed39 U.vm ∧ U.heap = h0) (fun _ _ _ _ _ => True) (fun _ U o U' => ∃ v L, o = .returned v ∧ Q_rmSm Z a1 p2 n1 k1 h0 n0 v U'.heap L ∧ FrameEnd U o U' L ({ frames := 0, cells := 0, slots := 0, locals := 0 } : Room).cells ({ frames := 0, cells := 0, slots := 0, locals := 0 } : Room).slots) := by
  refine MetFree.of_bodySF (plainFor_of_name pn_0) hisR ?_
  intro p e s m args below meth c s₁ Bd hml0 hP hK
  obtain ⟨rfl, hZ, hh⟩ := hP
  have hx := Bd.exec
  have hby := Bd.bytes
  have hml : c.maxLocals = 3 := hml0
  have hown : s.vm.findClass "com/example/insistent_hook/insistenthook/store/KeysConcatPinLaw" = some m.cls := findClass_of_methodNamed Bd.named
  have hnm := (name_of_methodNamed Bd.named Bd.method).1
  have X0 : Stand p l e ({ frames := 0, cells := 0, slots := 0, locals := 0 } : Room) s m #[(.ref a1), (.int p2), (.int n1)] below meth c s₁ [] 0 0 := Stand.of_body Bd
  have e0 : s₁.heap = h0 := by rw [← hh, Bd.state]; rfl
  have N0 := Fr.nil n0
  have pre0 : ∀ t, Steps p.tables e below (s₁.setTop (mkF m 0 #[.val (.ref a1), .val (.int p2), .val (.int n1)] [])) t → Steps p.tables e below (s₁.setTop (entryFrame m #[(.ref a1), (.int p2), (.int n1)] 3)) t := fun t k => castTop (ef_5 m a1 p2 n1) k
  obtain ⟨cl1, Ar1, q1, S1, M1, H1, G1⟩ := id V_a1
  obtain ⟨cl2, Ar2, q2, S2, M2, H2, G2⟩ := id V_a1
  have hin2 : ¬ ((0 : Int32) < 0 ∨ cl2.slots.size ≤ ((0 : Int32)).toNatClampNeg) := inb_of S2 ⟨by decide, (own_ge _ (1 : Int32) n1 (by decide) hc8)⟩
  have hat2 : cl2.slots[((0 : Int32)).toNatClampNeg]? = some (.int (own_by0 p2)) := H2.at hin2 rfl
  obtain ⟨cl3, Ar3, q3, S3, M3, H3, G3⟩ := id V_a1
  have hin3 : ¬ ((1 : Int32) < 0 ∨ cl3.slots.size ≤ ((1 : Int32)).toNatClampNeg) := inb_of S3 ⟨by decide, (own_ge _ (2 : Int32) n1 (by decide) hc21)⟩
  have hat3 : cl3.slots[((1 : Int32)).toNatClampNeg]? = some (.int (own_by p2 (8 : Int32))) := H3.at hin3 rfl
  obtain ⟨fs, hr, hrun, hended, hW, hsame⟩ := X0.leave (v := some (.int (1 : Int32))) (fun h => by rw [Bd.returns] at h; cases h)
  refine ⟨_, _, pre0 _ ?_, hrun, hended, _, _, rfl, ?_, ⟨_, rfl⟩, hW, hsame.mono (by decide) (by decide)⟩
  · show Steps p.tables e below (s₁.setTop (mkF m 0 #[.val (.ref a1), .val (.int p2), .val (.int n1)] [])) _
    refine XS.aloadN X0.here hx rfl (hb hby d_method_5_code_0) rfl rfl ?_
    show Steps p.tables e below (s₁.setTop (mkF m 1 #[.val (.ref a1), .val (.int p2), .val (.int n1)] [(.ref a1)])) _
    refine X0.arraylength hx (by rw [e0]; exact Ar1.1) (State.isArrayOf_alike hZ.alike Ar1.2.1) (g := (mkF m 1 #[.val (.ref a1), .val (.int p2), .val (.int n1)] [(.ref a1)])) rfl rfl (hb hby d_method_5_code_1) _ ?_
    rw [len_of S1 M1]
    show Steps p.tables e below (s₁.setTop (mkF m 2 #[.val (.ref a1), .val (.int p2), .val (.int n1)] [(.int n1)])) _
    refine XS.iloadN X0.here hx rfl (hb hby d_method_5_code_2) rfl ?_
    show Steps p.tables e below (s₁.setTop (mkF m 3 #[.val (.ref a1), .val (.int p2), .val (.int n1)] [(.int n1), (.int n1)])) _
    refine XS.icmpNo X0.here hx rfl (hb hby d_method_5_code_3) rfl (teq (rfl : n1 = n1)).2 ?_
    show Steps p.tables e below (s₁.setTop (mkF m 6 #[.val (.ref a1), .val (.int p2), .val (.int n1)] [])) _
    refine XS.iloadN X0.here hx rfl (hb hby d_method_5_code_6) rfl ?_
    show Steps p.tables e below (s₁.setTop (mkF m 7 #[.val (.ref a1), .val (.int p2), .val (.int n1)] [(.int n1)])) _
    refine XS.iconst X0.here hx rfl (hb hby d_method_5_code_7) ?_
    show Steps p.tables e below (s₁.setTop (mkF m 8 #[.val (.ref a1), .val (.int p2), .val (.int n1)] [(.int (1 : Int32)), (.int n1)])) _
    refine XS.icmpNo X0.here hx rfl (hb hby d_method_5_code_8) rfl (flt hc8).1 ?_
    show Steps p.tables e below (s₁.setTop (mkF m 11 #[.val (.ref a1), .val (.int p2), .val (.int n1)] [])) _
    refine XS.aloadN X0.here hx rfl (hb hby d_method_5_code_11) rfl rfl ?_
    show Steps p.tables e below (s₁.setTop (mkF m 12 #[.val (.ref a1), .val (.int p2), .val (.int n1)] [(.ref a1)])) _
    refine XS.iconst X0.here hx rfl (hb hby d_method_5_code_12) ?_
    show Steps p.tables e below (s₁.setTop (mkF m 13 #[.val (.ref a1), .val (.int p2), .val (.int n1)] [(.int (0 : Int32)), (.ref a1)])) _
    refine X0.baloadBytes hx (j := (0 : Int32)) (v := (.int (own_by0 p2))) (by rw [e0]; exact Ar2.1) (State.isArrayOf_alike hZ.alike Ar2.2.1) Ar2.2.2 hin2 hat2 (g := (mkF m 13 #[.val (.ref a1), .val (.int p2), .val (.int n1)] [(.int (0 : Int32)), (.ref a1)])) rfl rfl (hb hby d_method_5_code_13) _ ?_
    show Steps p.tables e below (s₁.setTop (mkF m 14 #[.val (.ref a1), .val (.int p2), .val (.int n1)] [(.int (own_by0 p2))])) _
    refine XS.iloadN X0.here hx rfl (hb hby d_method_5_code_14) rfl ?_
    show Steps p.tables e below (s₁.setTop (mkF m 15 #[.val (.ref a1), .val (.int p2), .val (.int n1)] [(.int p2), (.int (own_by0 p2))])) _
    refine XS.i2b X0.here hx rfl (hb hby d_method_5_code_15) rfl ?_
    show Steps p.tables e below (s₁.setTop (mkF m 16 #[.val (.ref a1), .val (.int p2), .val (.int n1)] [(.int (own_by0 p2)), (.int (own_by0 p2))])) _
    refine XS.icmpNo X0.here hx rfl (hb hby d_method_5_code_16) rfl (teq (rfl : (own_by0 p2) = (own_by0 p2))).2 ?_
    show Steps p.tables e below (s₁.setTop (mkF m 19 #[.val (.ref a1), .val (.int p2), .val (.int n1)] [])) _
    refine XS.iloadN X0.here hx rfl (hb hby d_method_5_code_19) rfl ?_
    show Steps p.tables e below (s₁.setTop (mkF m 20 #[.val (.ref a1), .val (.int p2), .val (.int n1)] [(.int n1)])) _
    refine XS.iconst X0.here hx rfl (hb hby d_method_5_code_20) ?_
    show Steps p.tables e below (s₁.setTop (mkF m 21 #[.val (.ref a1), .val (.int p2), .val (.int n1)] [(.int (2 : Int32)), (.int n1)])) _
    refine XS.icmpNo X0.here hx rfl (hb hby d_method_5_code_21) rfl (flt hc21).1 ?_
    show Steps p.tables e below (s₁.setTop (mkF m 24 #[.val (.ref a1), .val (.int p2), .val (.int n1)] [])) _
    refine XS.aloadN X0.here hx rfl (hb hby d_method_5_code_24) rfl rfl ?_
    show Steps p.tables e below (s₁.setTop (mkF m 25 #[.val (.ref a1), .val (.int p2), .val (.int n1)] [(.ref a1)])) _
    refine XS.iconst X0.here hx rfl (hb hby d_method_5_code_25) ?_
    show Steps p.tables e below (s₁.setTop (mkF m 26 #[.val (.ref a1), .val (.int p2), .val (.int n1)] [(.int (1 : Int32)), (.ref a1)])) _
    refine X0.baloadBytes hx (j := (1 : Int32)) (v := (.int (own_by p2 (8 : Int32)))) (by rw [e0]; exact Ar3.1) (State.isArrayOf_alike hZ.alike Ar3.2.1) Ar3.2.2 hin3 hat3 (g := (mkF m 26 #[.val (.ref a1), .val (.int p2), .val (.int n1)] [(.int (1 : Int32)), (.ref a1)])) rfl rfl (hb hby d_method_5_code_26) _ ?_
    show Steps p.tables e below (s₁.setTop (mkF m 27 #[.val (.ref a1), .val (.int p2), .val (.int n1)] [(.int (own_by p2 (8 : Int32)))])) _
    refine XS.iloadN X0.here hx rfl (hb hby d_method_5_code_27) rfl ?_
    show Steps p.tables e below (s₁.setTop (mkF m 28 #[.val (.ref a1), .val (.int p2), .val (.int n1)] [(.int p2), (.int (own_by p2 (8 : Int32)))])) _
    refine XS.bipush X0.here hx rfl (hb hby d_method_5_code_28) ?_
    show Steps p.tables e below (s₁.setTop (mkF m 30 #[.val (.ref a1), .val (.int p2), .val (.int n1)] [(.int (8 : Int32)), (.int p2), (.int (own_by p2 (8 : Int32)))])) _
    refine XS.iushr X0.here hx rfl (hb hby d_method_5_code_30) rfl ?_
    show Steps p.tables e below (s₁.setTop (mkF m 31 #[.val (.ref a1), .val (.int p2), .val (.int n1)] [(.int ((p2.toUInt32 >>> ((8 : Int32) &&& 31).toUInt32).toInt32)), (.int (own_by p2 (8 : Int32)))])) _
    refine XS.i2b X0.here hx rfl (hb hby d_method_5_code_31) rfl ?_
    show Steps p.tables e below (s₁.setTop (mkF m 32 #[.val (.ref a1), .val (.int p2), .val (.int n1)] [(.int (own_by p2 (8 : Int32))), (.int (own_by p2 (8 : Int32)))])) _
    refine XS.icmpNo X0.here hx rfl (hb hby d_method_5_code_32) rfl (teq (rfl : (own_by p2 (8 : Int32)) = (own_by p2 (8 : Int32)))).2 ?_
    show Steps p.tables e below (s₁.setTop (mkF m 35 #[.val (.ref a1), .val (.int p2), .val (.int n1)] [])) _
    refine XS.iloadN X0.here hx rfl (hb hby d_method_5_code_35) rfl ?_
    show Steps p.tables e below (s₁.setTop (mkF m 36 #[.val (.ref a1), .val (.int p2), .val (.int n1)] [(.int n1)])) _
    refine XS.iconst X0.here hx rfl (hb hby d_method_5_code_36) ?_
    show Steps p.tables e below (s₁.setTop (mkF m 37 #[.val (.ref a1), .val (.int p2), .val (.int n1)] [(.int (3 : Int32)), (.int n1)])) _
    refine XS.icmpYes X0.here hx rfl (pc0 := 37) (pc' := 51) rfl (hb hby d_method_5_code_37) rfl (tlt hc37).1 (by decide) (by decide) ?_
    show Steps p.tables e below (s₁.setTop (mkF m 51 #[.val (.ref a1), .val (.int p2), .val (.int n1)] [])) _
    refine XS.iloadN X0.here hx rfl (hb hby d_method_5_code_51) rfl ?_
    show Steps p.tables e below (s₁.setTop (mkF m 52 #[.val (.ref a1), .val (.int p2), .val (.int n1)] [(.int n1)])) _
    refine XS.iconst X0.here hx rfl (hb hby d_method_5_code_52) ?_
    show Steps p.tables e below (s₁.setTop (mkF m 53 #[.val (.ref a1), .val (.int p2), .val (.int n1)] [(.int (4 : Int32)), (.int n1)])) _
    refine XS.icmpYes X0.here hx rfl (pc0 := 53) (pc' := 67) rfl (hb hby d_method_5_code_53) rfl (tlt hc53).1 (by decide) (by decide) ?_
    show Steps p.tables e below (s₁.setTop (mkF m 67 #[.val (.ref a1), .val (.int p2), .val (.int n1)] [])) _
    refine XS.iconst X0.here hx rfl (hb hby d_method_5_code_67) ?_
    show Steps p.tables e below (s₁.setTop (mkF m 68 #[.val (.ref a1), .val (.int p2), .val (.int n1)] [(.int (1 : Int32))])) _
    refine XS.goto X0.here hx rfl (pc0 := 68) (pc' := 72) rfl (hb hby d_method_5_code_68) (by decide) (by decide) ?_
    show Steps p.tables e below (s₁.setTop (mkF m 72 #[.val (.ref a1), .val (.int p2), .val (.int n1)] [(.int (1 : Int32))])) _
    exact retN X0 hx (t := .boolean) Bd.returns (by simp) (hb hby d_method_5_code_72) hr
  · show Q_rmSm Z a1 p2 n1 k1 h0 n0 _ s₁.heap _
    rw [e0]
    exact ⟨rfl, N0, rfl⟩
set_option maxRecDepth 65536 in
set_option maxHeartbeats 40000000 in
theorem rmSm_ffft (l : Launch) (Z : State) (a0 : Array Value) (hw : ∀ d ∈ tables_1, d.before a0 Z = true) (ws : List Jvm.Cond) (a1 : Addr) (p2 : Int32) (n1 : Int32) (k1 : ClassId) (h0 : Heap) (n0 : Nat) (Z0 : n0 ≤ h0.size) (V_a1 : Arv Z h0 a1 k1 .byte n1 (own_bs p2) (.int (0 : Int32))) (hn : own_B n1 4) (hc8 : ¬ (n1 < (1 : Int32))) (hc21 : ¬ (n1 < (2 : Int32))) (hc37 : ¬ (n1 < (3 : Int32))) (hc53 : n1 < (4 : Int32)) :
    MetFree l (⟨"com/example/insistent_hook/insistenthook/store/KeysConcatPinLaw", "same", "([BII)Z"⟩ : MethodName) (head1 (Jvm.Cond.code (⟨"com/example/insistent_hook/insistenthook/store/KeysConcatPinLaw", "same", "([BII)Z"⟩ : MethodName) method_5_code 3 (some .boolean) :: ws) ({ frames := 0, cells := 0, slots := 0, locals := 0 } : Room)) (fun a U => a = #[(.ref a1), (.int p2), (.int n1)] ∧ Z.Warmed39 U.vm ∧ U.heap = h0) (fun _ _ _ _ _ => True) (fun _ U o U' => ∃ v L, o = .returned v ∧ Q_rmSm Z a1 p2 n1 k1 h0 n0 v U'.heap L ∧ FrameEnd U o U' L ({ frames := 0, cells := 0, slots := 0, locals := 0 } : Room).cells ({ frames := 0, cells := 0, slots := 0, locals := 0 } : Room).slots) := by
  refine MetFree.of_bodySF (plainFor_of_name pn_0) hisR ?_
  intro p e s m args below meth c s₁ Bd hml0 hP hK
  obtain ⟨rfl, hZ, hh⟩ := hP
  have hx := Bd.exec
  have hby := Bd.bytes
  have hml : c.maxLocals = 3 := hml0
  have hown : s.vm.findClass "com/example/insistent_hook/insistenthook/store/KeysConcatPinLaw" = some m.cls := findClass_of_methodNamed Bd.named
  have hnm := (name_of_methodNamed Bd.named Bd.method).1
  have X0 : Stand p l e ({ frames := 0, cells := 0, slots := 0, locals := 0 } : Room) s m #[(.ref a1), (.int p2), (.int n1)] below meth c s₁ [] 0 0 := Stand.of_body Bd
  have e0 : s₁.heap = h0 := by rw [← hh, Bd.state]; rfl
  have N0 := Fr.nil n0
  have pre0 : ∀ t, Steps p.tables e below (s₁.setTop (mkF m 0 #[.val (.ref a1), .val (.int p2), .val (.int n1)] [])) t → Steps p.tables e below (s₁.setTop (entryFrame m #[(.ref a1), (.int p2), (.int n1)] 3)) t := fun t k => castTop (ef_5 m a1 p2 n1) k
  obtain ⟨cl1, Ar1, q1, S1, M1, H1, G1⟩ := id V_a1
  obtain ⟨cl2, Ar2, q2, S2, M2, H2, G2⟩ := id V_a1
  have hin2 : ¬ ((0 : Int32) < 0 ∨ cl2.slots.size ≤ ((0 : Int32)).toNatClampNeg) := inb_of S2 ⟨by decide, (own_ge _ (1 : Int32) n1 (by decide) hc8)⟩
  have hat2 : cl2.slots[((0 : Int32)).toNatClampNeg]? = some (.int (own_by0 p2)) := H2.at hin2 rfl
  obtain ⟨cl3, Ar3, q3, S3, M3, H3, G3⟩ := id V_a1
  have hin3 : ¬ ((1 : Int32) < 0 ∨ cl3.slots.size ≤ ((1 : Int32)).toNatClampNeg) := inb_of S3 ⟨by decide, (own_ge _ (2 : Int32) n1 (by decide) hc21)⟩
  have hat3 : cl3.slots[((1 : Int32)).toNatClampNeg]? = some (.int (own_by p2 (8 : Int32))) := H3.at hin3 rfl
  obtain ⟨cl4, Ar4, q4, S4, M4, H4, G4⟩ := id V_a1
  have hin4 : ¬ ((2 : Int32) < 0 ∨ cl4.slots.size ≤ ((2 : Int32)).toNatClampNeg) := inb_of S4 ⟨by decide, (own_ge _ (3 : Int32) n1 (by decide) hc37)⟩
  have hat4 : cl4.slots[((2 : Int32)).toNatClampNeg]? = some (.int (own_by p2 (16 : Int32))) := H4.at hin4 rfl
  obtain ⟨fs, hr, hrun, hended, hW, hsame⟩ := X0.leave (v := some (.int (1 : Int32))) (fun h => by rw [Bd.returns] at h; cases h)
  refine ⟨_, _, pre0 _ ?_, hrun, hended, _, _, rfl, ?_, ⟨_, rfl⟩, hW, hsame.mono (by decide) (by decide)⟩
  · show Steps p.tables e below (s₁.setTop (mkF m 0 #[.val (.ref a1), .val (.int p2), .val (.int n1)] [])) _
    refine XS.aloadN X0.here hx rfl (hb hby d_method_5_code_0) rfl rfl ?_
    show Steps p.tables e below (s₁.setTop (mkF m 1 #[.val (.ref a1), .val (.int p2), .val (.int n1)] [(.ref a1)])) _
    refine X0.arraylength hx (by rw [e0]; exact Ar1.1) (State.isArrayOf_alike hZ.alike Ar1.2.1) (g := (mkF m 1 #[.val (.ref a1), .val (.int p2), .val (.int n1)] [(.ref a1)])) rfl rfl (hb hby d_method_5_code_1) _ ?_
    rw [len_of S1 M1]
    show Steps p.tables e below (s₁.setTop (mkF m 2 #[.val (.ref a1), .val (.int p2), .val (.int n1)] [(.int n1)])) _
    refine XS.iloadN X0.here hx rfl (hb hby d_method_5_code_2) rfl ?_
    show Steps p.tables e below (s₁.setTop (mkF m 3 #[.val (.ref a1), .val (.int p2), .val (.int n1)] [(.int n1), (.int n1)])) _
    refine XS.icmpNo X0.here hx rfl (hb hby d_method_5_code_3) rfl (teq (rfl : n1 = n1)).2 ?_
    show Steps p.tables e below (s₁.setTop (mkF m 6 #[.val (.ref a1), .val (.int p2), .val (.int n1)] [])) _
    refine XS.iloadN X0.here hx rfl (hb hby d_method_5_code_6) rfl ?_
    show Steps p.tables e below (s₁.setTop (mkF m 7 #[.val (.ref a1), .val (.int p2), .val (.int n1)] [(.int n1)])) _
    refine XS.iconst X0.here hx rfl (hb hby d_method_5_code_7) ?_
    show Steps p.tables e below (s₁.setTop (mkF m 8 #[.val (.ref a1), .val (.int p2), .val (.int n1)] [(.int (1 : Int32)), (.int n1)])) _
    refine XS.icmpNo X0.here hx rfl (hb hby d_method_5_code_8) rfl (flt hc8).1 ?_
    show Steps p.tables e below (s₁.setTop (mkF m 11 #[.val (.ref a1), .val (.int p2), .val (.int n1)] [])) _
    refine XS.aloadN X0.here hx rfl (hb hby d_method_5_code_11) rfl rfl ?_
    show Steps p.tables e below (s₁.setTop (mkF m 12 #[.val (.ref a1), .val (.int p2), .val (.int n1)] [(.ref a1)])) _
    refine XS.iconst X0.here hx rfl (hb hby d_method_5_code_12) ?_
    show Steps p.tables e below (s₁.setTop (mkF m 13 #[.val (.ref a1), .val (.int p2), .val (.int n1)] [(.int (0 : Int32)), (.ref a1)])) _
    refine X0.baloadBytes hx (j := (0 : Int32)) (v := (.int (own_by0 p2))) (by rw [e0]; exact Ar2.1) (State.isArrayOf_alike hZ.alike Ar2.2.1) Ar2.2.2 hin2 hat2 (g := (mkF m 13 #[.val (.ref a1), .val (.int p2), .val (.int n1)] [(.int (0 : Int32)), (.ref a1)])) rfl rfl (hb hby d_method_5_code_13) _ ?_
    show Steps p.tables e below (s₁.setTop (mkF m 14 #[.val (.ref a1), .val (.int p2), .val (.int n1)] [(.int (own_by0 p2))])) _
    refine XS.iloadN X0.here hx rfl (hb hby d_method_5_code_14) rfl ?_
    show Steps p.tables e below (s₁.setTop (mkF m 15 #[.val (.ref a1), .val (.int p2), .val (.int n1)] [(.int p2), (.int (own_by0 p2))])) _
    refine XS.i2b X0.here hx rfl (hb hby d_method_5_code_15) rfl ?_
    show Steps p.tables e below (s₁.setTop (mkF m 16 #[.val (.ref a1), .val (.int p2), .val (.int n1)] [(.int (own_by0 p2)), (.int (own_by0 p2))])) _
    refine XS.icmpNo X0.here hx rfl (hb hby d_method_5_code_16) rfl (teq (rfl : (own_by0 p2) = (own_by0 p2))).2 ?_
    show Steps p.tables e below (s₁.setTop (mkF m 19 #[.val (.ref a1), .val (.int p2), .val (.int n1)] [])) _
    refine XS.iloadN X0.here hx rfl (hb hby d_method_5_code_19) rfl ?_
    show Steps p.tables e below (s₁.setTop (mkF m 20 #[.val (.ref a1), .val (.int p2), .val (.int n1)] [(.int n1)])) _
    refine XS.iconst X0.here hx rfl (hb hby d_method_5_code_20) ?_
    show Steps p.tables e below (s₁.setTop (mkF m 21 #[.val (.ref a1), .val (.int p2), .val (.int n1)] [(.int (2 : Int32)), (.int n1)])) _
    refine XS.icmpNo X0.here hx rfl (hb hby d_method_5_code_21) rfl (flt hc21).1 ?_
    show Steps p.tables e below (s₁.setTop (mkF m 24 #[.val (.ref a1), .val (.int p2), .val (.int n1)] [])) _
    refine XS.aloadN X0.here hx rfl (hb hby d_method_5_code_24) rfl rfl ?_
    show Steps p.tables e below (s₁.setTop (mkF m 25 #[.val (.ref a1), .val (.int p2), .val (.int n1)] [(.ref a1)])) _
    refine XS.iconst X0.here hx rfl (hb hby d_method_5_code_25) ?_
    show Steps p.tables e below (s₁.setTop (mkF m 26 #[.val (.ref a1), .val (.int p2), .val (.int n1)] [(.int (1 : Int32)), (.ref a1)])) _
    refine X0.baloadBytes hx (j := (1 : Int32)) (v := (.int (own_by p2 (8 : Int32)))) (by rw [e0]; exact Ar3.1) (State.isArrayOf_alike hZ.alike Ar3.2.1) Ar3.2.2 hin3 hat3 (g := (mkF m 26 #[.val (.ref a1), .val (.int p2), .val (.int n1)] [(.int (1 : Int32)), (.ref a1)])) rfl rfl (hb hby d_method_5_code_26) _ ?_
    show Steps p.tables e below (s₁.setTop (mkF m 27 #[.val (.ref a1), .val (.int p2), .val (.int n1)] [(.int (own_by p2 (8 : Int32)))])) _
    refine XS.iloadN X0.here hx rfl (hb hby d_method_5_code_27) rfl ?_
    show Steps p.tables e below (s₁.setTop (mkF m 28 #[.val (.ref a1), .val (.int p2), .val (.int n1)] [(.int p2), (.int (own_by p2 (8 : Int32)))])) _
    refine XS.bipush X0.here hx rfl (hb hby d_method_5_code_28) ?_
    show Steps p.tables e below (s₁.setTop (mkF m 30 #[.val (.ref a1), .val (.int p2), .val (.int n1)] [(.int (8 : Int32)), (.int p2), (.int (own_by p2 (8 : Int32)))])) _
    refine XS.iushr X0.here hx rfl (hb hby d_method_5_code_30) rfl ?_
    show Steps p.tables e below (s₁.setTop (mkF m 31 #[.val (.ref a1), .val (.int p2), .val (.int n1)] [(.int ((p2.toUInt32 >>> ((8 : Int32) &&& 31).toUInt32).toInt32)), (.int (own_by p2 (8 : Int32)))])) _
    refine XS.i2b X0.here hx rfl (hb hby d_method_5_code_31) rfl ?_
    show Steps p.tables e below (s₁.setTop (mkF m 32 #[.val (.ref a1), .val (.int p2), .val (.int n1)] [(.int (own_by p2 (8 : Int32))), (.int (own_by p2 (8 : Int32)))])) _
    refine XS.icmpNo X0.here hx rfl (hb hby d_method_5_code_32) rfl (teq (rfl : (own_by p2 (8 : Int32)) = (own_by p2 (8 : Int32)))).2 ?_
    show Steps p.tables e below (s₁.setTop (mkF m 35 #[.val (.ref a1), .val (.int p2), .val (.int n1)] [])) _
    refine XS.iloadN X0.here hx rfl (hb hby d_method_5_code_35) rfl ?_
    show Steps p.tables e below (s₁.setTop (mkF m 36 #[.val (.ref a1), .val (.int p2), .val (.int n1)] [(.int n1)])) _
    refine XS.iconst X0.here hx rfl (hb hby d_method_5_code_36) ?_
    show Steps p.tables e below (s₁.setTop (mkF m 37 #[.val (.ref a1), .val (.int p2), .val (.int n1)] [(.int (3 : Int32)), (.int n1)])) _
    refine XS.icmpNo X0.here hx rfl (hb hby d_method_5_code_37) rfl (flt hc37).1 ?_
    show Steps p.tables e below (s₁.setTop (mkF m 40 #[.val (.ref a1), .val (.int p2), .val (.int n1)] [])) _
    refine XS.aloadN X0.here hx rfl (hb hby d_method_5_code_40) rfl rfl ?_
    show Steps p.tables e below (s₁.setTop (mkF m 41 #[.val (.ref a1), .val (.int p2), .val (.int n1)] [(.ref a1)])) _
    refine XS.iconst X0.here hx rfl (hb hby d_method_5_code_41) ?_
    show Steps p.tables e below (s₁.setTop (mkF m 42 #[.val (.ref a1), .val (.int p2), .val (.int n1)] [(.int (2 : Int32)), (.ref a1)])) _
    refine X0.baloadBytes hx (j := (2 : Int32)) (v := (.int (own_by p2 (16 : Int32)))) (by rw [e0]; exact Ar4.1) (State.isArrayOf_alike hZ.alike Ar4.2.1) Ar4.2.2 hin4 hat4 (g := (mkF m 42 #[.val (.ref a1), .val (.int p2), .val (.int n1)] [(.int (2 : Int32)), (.ref a1)])) rfl rfl (hb hby d_method_5_code_42) _ ?_
    show Steps p.tables e below (s₁.setTop (mkF m 43 #[.val (.ref a1), .val (.int p2), .val (.int n1)] [(.int (own_by p2 (16 : Int32)))])) _
    refine XS.iloadN X0.here hx rfl (hb hby d_method_5_code_43) rfl ?_
    show Steps p.tables e below (s₁.setTop (mkF m 44 #[.val (.ref a1), .val (.int p2), .val (.int n1)] [(.int p2), (.int (own_by p2 (16 : Int32)))])) _
    refine XS.bipush X0.here hx rfl (hb hby d_method_5_code_44) ?_
    show Steps p.tables e below (s₁.setTop (mkF m 46 #[.val (.ref a1), .val (.int p2), .val (.int n1)] [(.int (16 : Int32)), (.int p2), (.int (own_by p2 (16 : Int32)))])) _
    refine XS.iushr X0.here hx rfl (hb hby d_method_5_code_46) rfl ?_
    show Steps p.tables e below (s₁.setTop (mkF m 47 #[.val (.ref a1), .val (.int p2), .val (.int n1)] [(.int ((p2.toUInt32 >>> ((16 : Int32) &&& 31).toUInt32).toInt32)), (.int (own_by p2 (16 : Int32)))])) _
    refine XS.i2b X0.here hx rfl (hb hby d_method_5_code_47) rfl ?_
    show Steps p.tables e below (s₁.setTop (mkF m 48 #[.val (.ref a1), .val (.int p2), .val (.int n1)] [(.int (own_by p2 (16 : Int32))), (.int (own_by p2 (16 : Int32)))])) _
    refine XS.icmpNo X0.here hx rfl (hb hby d_method_5_code_48) rfl (teq (rfl : (own_by p2 (16 : Int32)) = (own_by p2 (16 : Int32)))).2 ?_
    show Steps p.tables e below (s₁.setTop (mkF m 51 #[.val (.ref a1), .val (.int p2), .val (.int n1)] [])) _
    refine XS.iloadN X0.here hx rfl (hb hby d_method_5_code_51) rfl ?_
    show Steps p.tables e below (s₁.setTop (mkF m 52 #[.val (.ref a1), .val (.int p2), .val (.int n1)] [(.int n1)])) _
    refine XS.iconst X0.here hx rfl (hb hby d_method_5_code_52) ?_
    show Steps p.tables e below (s₁.setTop (mkF m 53 #[.val (.ref a1), .val (.int p2), .val (.int n1)] [(.int (4 : Int32)), (.int n1)])) _
    refine XS.icmpYes X0.here hx rfl (pc0 := 53) (pc' := 67) rfl (hb hby d_method_5_code_53) rfl (tlt hc53).1 (by decide) (by decide) ?_
    show Steps p.tables e below (s₁.setTop (mkF m 67 #[.val (.ref a1), .val (.int p2), .val (.int n1)] [])) _
    refine XS.iconst X0.here hx rfl (hb hby d_method_5_code_67) ?_
    show Steps p.tables e below (s₁.setTop (mkF m 68 #[.val (.ref a1), .val (.int p2), .val (.int n1)] [(.int (1 : Int32))])) _
    refine XS.goto X0.here hx rfl (pc0 := 68) (pc' := 72) rfl (hb hby d_method_5_code_68) (by decide) (by decide) ?_
    show Steps p.tables e below (s₁.setTop (mkF m 72 #[.val (.ref a1), .val (.int p2), .val (.int n1)] [(.int (1 : Int32))])) _
    exact retN X0 hx (t := .boolean) Bd.returns (by simp) (hb hby d_method_5_code_72) hr
  · show Q_rmSm Z a1 p2 n1 k1 h0 n0 _ s₁.heap _
    rw [e0]
    exact ⟨rfl, N0, rfl⟩
set_option maxRecDepth 65536 in
set_option maxHeartbeats 40000000 in
theorem rmSm_ffff (l : Launch) (Z : State) (a0 : Array Value) (hw : ∀ d ∈ tables_1, d.before a0 Z = true) (ws : List Jvm.Cond) (a1 : Addr) (p2 : Int32) (n1 : Int32) (k1 : ClassId) (h0 : Heap) (n0 : Nat) (Z0 : n0 ≤ h0.size) (V_a1 : Arv Z h0 a1 k1 .byte n1 (own_bs p2) (.int (0 : Int32))) (hn : own_B n1 4) (hc8 : ¬ (n1 < (1 : Int32))) (hc21 : ¬ (n1 < (2 : Int32))) (hc37 : ¬ (n1 < (3 : Int32))) (hc53 : ¬ (n1 < (4 : Int32))) :
    MetFree l (⟨"com/example/insistent_hook/insistenthook/store/KeysConcatPinLaw", "same", "([BII)Z"⟩ : MethodName) (head1 (Jvm.Cond.code (⟨"com/example/insistent_hook/insistenthook/store/KeysConcatPinLaw", "same", "([BII)Z"⟩ : MethodName) method_5_code 3 (some .boolean) :: ws) ({ frames := 0, cells := 0, slots := 0, locals := 0 } : Room)) (fun a U => a = #[(.ref a1), (.int p2), (.int n1)] ∧ Z.Warmed39 U.vm ∧ U.heap = h0) (fun _ _ _ _ _ => True) (fun _ U o U' => ∃ v L, o = .returned v ∧ Q_rmSm Z a1 p2 n1 k1 h0 n0 v U'.heap L ∧ FrameEnd U o U' L ({ frames := 0, cells := 0, slots := 0, locals := 0 } : Room).cells ({ frames := 0, cells := 0, slots := 0, locals := 0 } : Room).slots) := by
  refine MetFree.of_bodySF (plainFor_of_name pn_0) hisR ?_
  intro p e s m args below meth c s₁ Bd hml0 hP hK
  obtain ⟨rfl, hZ, hh⟩ := hP
  have hx := Bd.exec
  have hby := Bd.bytes
  have hml : c.maxLocals = 3 := hml0
  have hown : s.vm.findClass "com/example/insistent_hook/insistenthook/store/KeysConcatPinLaw" = some m.cls := findClass_of_methodNamed Bd.named
  have hnm := (name_of_methodNamed Bd.named Bd.method).1
  have X0 : Stand p l e ({ frames := 0, cells := 0, slots := 0, locals := 0 } : Room) s m #[(.ref a1), (.int p2), (.int n1)] below meth c s₁ [] 0 0 := Stand.of_body Bd
  have e0 : s₁.heap = h0 := by rw [← hh, Bd.state]; rfl
  have N0 := Fr.nil n0
  have pre0 : ∀ t, Steps p.tables e below (s₁.setTop (mkF m 0 #[.val (.ref a1), .val (.int p2), .val (.int n1)] [])) t → Steps p.tables e below (s₁.setTop (entryFrame m #[(.ref a1), (.int p2), (.int n1)] 3)) t := fun t k => castTop (ef_5 m a1 p2 n1) k
  obtain ⟨cl1, Ar1, q1, S1, M1, H1, G1⟩ := id V_a1
  obtain ⟨cl2, Ar2, q2, S2, M2, H2, G2⟩ := id V_a1
  have hin2 : ¬ ((0 : Int32) < 0 ∨ cl2.slots.size ≤ ((0 : Int32)).toNatClampNeg) := inb_of S2 ⟨by decide, (own_ge _ (1 : Int32) n1 (by decide) hc8)⟩
  have hat2 : cl2.slots[((0 : Int32)).toNatClampNeg]? = some (.int (own_by0 p2)) := H2.at hin2 rfl
  obtain ⟨cl3, Ar3, q3, S3, M3, H3, G3⟩ := id V_a1
  have hin3 : ¬ ((1 : Int32) < 0 ∨ cl3.slots.size ≤ ((1 : Int32)).toNatClampNeg) := inb_of S3 ⟨by decide, (own_ge _ (2 : Int32) n1 (by decide) hc21)⟩
  have hat3 : cl3.slots[((1 : Int32)).toNatClampNeg]? = some (.int (own_by p2 (8 : Int32))) := H3.at hin3 rfl
  obtain ⟨cl4, Ar4, q4, S4, M4, H4, G4⟩ := id V_a1
  have hin4 : ¬ ((2 : Int32) < 0 ∨ cl4.slots.size ≤ ((2 : Int32)).toNatClampNeg) := inb_of S4 ⟨by decide, (own_ge _ (3 : Int32) n1 (by decide) hc37)⟩
  have hat4 : cl4.slots[((2 : Int32)).toNatClampNeg]? = some (.int (own_by p2 (16 : Int32))) := H4.at hin4 rfl
  obtain ⟨cl5, Ar5, q5, S5, M5, H5, G5⟩ := id V_a1
  have hin5 : ¬ ((3 : Int32) < 0 ∨ cl5.slots.size ≤ ((3 : Int32)).toNatClampNeg) := inb_of S5 ⟨by decide, (own_ge _ (4 : Int32) n1 (by decide) hc53)⟩
  have hat5 : cl5.slots[((3 : Int32)).toNatClampNeg]? = some (.int (own_by p2 (24 : Int32))) := H5.at hin5 rfl
  obtain ⟨fs, hr, hrun, hended, hW, hsame⟩ := X0.leave (v := some (.int (1 : Int32))) (fun h => by rw [Bd.returns] at h; cases h)
  refine ⟨_, _, pre0 _ ?_, hrun, hended, _, _, rfl, ?_, ⟨_, rfl⟩, hW, hsame.mono (by decide) (by decide)⟩
  · show Steps p.tables e below (s₁.setTop (mkF m 0 #[.val (.ref a1), .val (.int p2), .val (.int n1)] [])) _
    refine XS.aloadN X0.here hx rfl (hb hby d_method_5_code_0) rfl rfl ?_
    show Steps p.tables e below (s₁.setTop (mkF m 1 #[.val (.ref a1), .val (.int p2), .val (.int n1)] [(.ref a1)])) _
    refine X0.arraylength hx (by rw [e0]; exact Ar1.1) (State.isArrayOf_alike hZ.alike Ar1.2.1) (g := (mkF m 1 #[.val (.ref a1), .val (.int p2), .val (.int n1)] [(.ref a1)])) rfl rfl (hb hby d_method_5_code_1) _ ?_
    rw [len_of S1 M1]
    show Steps p.tables e below (s₁.setTop (mkF m 2 #[.val (.ref a1), .val (.int p2), .val (.int n1)] [(.int n1)])) _
    refine XS.iloadN X0.here hx rfl (hb hby d_method_5_code_2) rfl ?_
    show Steps p.tables e below (s₁.setTop (mkF m 3 #[.val (.ref a1), .val (.int p2), .val (.int n1)] [(.int n1), (.int n1)])) _
    refine XS.icmpNo X0.here hx rfl (hb hby d_method_5_code_3) rfl (teq (rfl : n1 = n1)).2 ?_
    show Steps p.tables e below (s₁.setTop (mkF m 6 #[.val (.ref a1), .val (.int p2), .val (.int n1)] [])) _
    refine XS.iloadN X0.here hx rfl (hb hby d_method_5_code_6) rfl ?_
    show Steps p.tables e below (s₁.setTop (mkF m 7 #[.val (.ref a1), .val (.int p2), .val (.int n1)] [(.int n1)])) _
    refine XS.iconst X0.here hx rfl (hb hby d_method_5_code_7) ?_
    show Steps p.tables e below (s₁.setTop (mkF m 8 #[.val (.ref a1), .val (.int p2), .val (.int n1)] [(.int (1 : Int32)), (.int n1)])) _
    refine XS.icmpNo X0.here hx rfl (hb hby d_method_5_code_8) rfl (flt hc8).1 ?_
    show Steps p.tables e below (s₁.setTop (mkF m 11 #[.val (.ref a1), .val (.int p2), .val (.int n1)] [])) _
    refine XS.aloadN X0.here hx rfl (hb hby d_method_5_code_11) rfl rfl ?_
    show Steps p.tables e below (s₁.setTop (mkF m 12 #[.val (.ref a1), .val (.int p2), .val (.int n1)] [(.ref a1)])) _
    refine XS.iconst X0.here hx rfl (hb hby d_method_5_code_12) ?_
    show Steps p.tables e below (s₁.setTop (mkF m 13 #[.val (.ref a1), .val (.int p2), .val (.int n1)] [(.int (0 : Int32)), (.ref a1)])) _
    refine X0.baloadBytes hx (j := (0 : Int32)) (v := (.int (own_by0 p2))) (by rw [e0]; exact Ar2.1) (State.isArrayOf_alike hZ.alike Ar2.2.1) Ar2.2.2 hin2 hat2 (g := (mkF m 13 #[.val (.ref a1), .val (.int p2), .val (.int n1)] [(.int (0 : Int32)), (.ref a1)])) rfl rfl (hb hby d_method_5_code_13) _ ?_
    show Steps p.tables e below (s₁.setTop (mkF m 14 #[.val (.ref a1), .val (.int p2), .val (.int n1)] [(.int (own_by0 p2))])) _
    refine XS.iloadN X0.here hx rfl (hb hby d_method_5_code_14) rfl ?_
    show Steps p.tables e below (s₁.setTop (mkF m 15 #[.val (.ref a1), .val (.int p2), .val (.int n1)] [(.int p2), (.int (own_by0 p2))])) _
    refine XS.i2b X0.here hx rfl (hb hby d_method_5_code_15) rfl ?_
    show Steps p.tables e below (s₁.setTop (mkF m 16 #[.val (.ref a1), .val (.int p2), .val (.int n1)] [(.int (own_by0 p2)), (.int (own_by0 p2))])) _
    refine XS.icmpNo X0.here hx rfl (hb hby d_method_5_code_16) rfl (teq (rfl : (own_by0 p2) = (own_by0 p2))).2 ?_
    show Steps p.tables e below (s₁.setTop (mkF m 19 #[.val (.ref a1), .val (.int p2), .val (.int n1)] [])) _
    refine XS.iloadN X0.here hx rfl (hb hby d_method_5_code_19) rfl ?_
    show Steps p.tables e below (s₁.setTop (mkF m 20 #[.val (.ref a1), .val (.int p2), .val (.int n1)] [(.int n1)])) _
    refine XS.iconst X0.here hx rfl (hb hby d_method_5_code_20) ?_
    show Steps p.tables e below (s₁.setTop (mkF m 21 #[.val (.ref a1), .val (.int p2), .val (.int n1)] [(.int (2 : Int32)), (.int n1)])) _
    refine XS.icmpNo X0.here hx rfl (hb hby d_method_5_code_21) rfl (flt hc21).1 ?_
    show Steps p.tables e below (s₁.setTop (mkF m 24 #[.val (.ref a1), .val (.int p2), .val (.int n1)] [])) _
    refine XS.aloadN X0.here hx rfl (hb hby d_method_5_code_24) rfl rfl ?_
    show Steps p.tables e below (s₁.setTop (mkF m 25 #[.val (.ref a1), .val (.int p2), .val (.int n1)] [(.ref a1)])) _
    refine XS.iconst X0.here hx rfl (hb hby d_method_5_code_25) ?_
    show Steps p.tables e below (s₁.setTop (mkF m 26 #[.val (.ref a1), .val (.int p2), .val (.int n1)] [(.int (1 : Int32)), (.ref a1)])) _
    refine X0.baloadBytes hx (j := (1 : Int32)) (v := (.int (own_by p2 (8 : Int32)))) (by rw [e0]; exact Ar3.1) (State.isArrayOf_alike hZ.alike Ar3.2.1) Ar3.2.2 hin3 hat3 (g := (mkF m 26 #[.val (.ref a1), .val (.int p2), .val (.int n1)] [(.int (1 : Int32)), (.ref a1)])) rfl rfl (hb hby d_method_5_code_26) _ ?_
    show Steps p.tables e below (s₁.setTop (mkF m 27 #[.val (.ref a1), .val (.int p2), .val (.int n1)] [(.int (own_by p2 (8 : Int32)))])) _
    refine XS.iloadN X0.here hx rfl (hb hby d_method_5_code_27) rfl ?_
    show Steps p.tables e below (s₁.setTop (mkF m 28 #[.val (.ref a1), .val (.int p2), .val (.int n1)] [(.int p2), (.int (own_by p2 (8 : Int32)))])) _
    refine XS.bipush X0.here hx rfl (hb hby d_method_5_code_28) ?_
    show Steps p.tables e below (s₁.setTop (mkF m 30 #[.val (.ref a1), .val (.int p2), .val (.int n1)] [(.int (8 : Int32)), (.int p2), (.int (own_by p2 (8 : Int32)))])) _
    refine XS.iushr X0.here hx rfl (hb hby d_method_5_code_30) rfl ?_
    show Steps p.tables e below (s₁.setTop (mkF m 31 #[.val (.ref a1), .val (.int p2), .val (.int n1)] [(.int ((p2.toUInt32 >>> ((8 : Int32) &&& 31).toUInt32).toInt32)), (.int (own_by p2 (8 : Int32)))])) _
    refine XS.i2b X0.here hx rfl (hb hby d_method_5_code_31) rfl ?_
    show Steps p.tables e below (s₁.setTop (mkF m 32 #[.val (.ref a1), .val (.int p2), .val (.int n1)] [(.int (own_by p2 (8 : Int32))), (.int (own_by p2 (8 : Int32)))])) _
    refine XS.icmpNo X0.here hx rfl (hb hby d_method_5_code_32) rfl (teq (rfl : (own_by p2 (8 : Int32)) = (own_by p2 (8 : Int32)))).2 ?_
    show Steps p.tables e below (s₁.setTop (mkF m 35 #[.val (.ref a1), .val (.int p2), .val (.int n1)] [])) _
    refine XS.iloadN X0.here hx rfl (hb hby d_method_5_code_35) rfl ?_
    show Steps p.tables e below (s₁.setTop (mkF m 36 #[.val (.ref a1), .val (.int p2), .val (.int n1)] [(.int n1)])) _
    refine XS.iconst X0.here hx rfl (hb hby d_method_5_code_36) ?_
    show Steps p.tables e below (s₁.setTop (mkF m 37 #[.val (.ref a1), .val (.int p2), .val (.int n1)] [(.int (3 : Int32)), (.int n1)])) _
    refine XS.icmpNo X0.here hx rfl (hb hby d_method_5_code_37) rfl (flt hc37).1 ?_
    show Steps p.tables e below (s₁.setTop (mkF m 40 #[.val (.ref a1), .val (.int p2), .val (.int n1)] [])) _
    refine XS.aloadN X0.here hx rfl (hb hby d_method_5_code_40) rfl rfl ?_
    show Steps p.tables e below (s₁.setTop (mkF m 41 #[.val (.ref a1), .val (.int p2), .val (.int n1)] [(.ref a1)])) _
    refine XS.iconst X0.here hx rfl (hb hby d_method_5_code_41) ?_
    show Steps p.tables e below (s₁.setTop (mkF m 42 #[.val (.ref a1), .val (.int p2), .val (.int n1)] [(.int (2 : Int32)), (.ref a1)])) _
    refine X0.baloadBytes hx (j := (2 : Int32)) (v := (.int (own_by p2 (16 : Int32)))) (by rw [e0]; exact Ar4.1) (State.isArrayOf_alike hZ.alike Ar4.2.1) Ar4.2.2 hin4 hat4 (g := (mkF m 42 #[.val (.ref a1), .val (.int p2), .val (.int n1)] [(.int (2 : Int32)), (.ref a1)])) rfl rfl (hb hby d_method_5_code_42) _ ?_
    show Steps p.tables e below (s₁.setTop (mkF m 43 #[.val (.ref a1), .val (.int p2), .val (.int n1)] [(.int (own_by p2 (16 : Int32)))])) _
    refine XS.iloadN X0.here hx rfl (hb hby d_method_5_code_43) rfl ?_
    show Steps p.tables e below (s₁.setTop (mkF m 44 #[.val (.ref a1), .val (.int p2), .val (.int n1)] [(.int p2), (.int (own_by p2 (16 : Int32)))])) _
    refine XS.bipush X0.here hx rfl (hb hby d_method_5_code_44) ?_
    show Steps p.tables e below (s₁.setTop (mkF m 46 #[.val (.ref a1), .val (.int p2), .val (.int n1)] [(.int (16 : Int32)), (.int p2), (.int (own_by p2 (16 : Int32)))])) _
    refine XS.iushr X0.here hx rfl (hb hby d_method_5_code_46) rfl ?_
    show Steps p.tables e below (s₁.setTop (mkF m 47 #[.val (.ref a1), .val (.int p2), .val (.int n1)] [(.int ((p2.toUInt32 >>> ((16 : Int32) &&& 31).toUInt32).toInt32)), (.int (own_by p2 (16 : Int32)))])) _
    refine XS.i2b X0.here hx rfl (hb hby d_method_5_code_47) rfl ?_
    show Steps p.tables e below (s₁.setTop (mkF m 48 #[.val (.ref a1), .val (.int p2), .val (.int n1)] [(.int (own_by p2 (16 : Int32))), (.int (own_by p2 (16 : Int32)))])) _
    refine XS.icmpNo X0.here hx rfl (hb hby d_method_5_code_48) rfl (teq (rfl : (own_by p2 (16 : Int32)) = (own_by p2 (16 : Int32)))).2 ?_
    show Steps p.tables e below (s₁.setTop (mkF m 51 #[.val (.ref a1), .val (.int p2), .val (.int n1)] [])) _
    refine XS.iloadN X0.here hx rfl (hb hby d_method_5_code_51) rfl ?_
    show Steps p.tables e below (s₁.setTop (mkF m 52 #[.val (.ref a1), .val (.int p2), .val (.int n1)] [(.int n1)])) _
    refine XS.iconst X0.here hx rfl (hb hby d_method_5_code_52) ?_
    show Steps p.tables e below (s₁.setTop (mkF m 53 #[.val (.ref a1), .val (.int p2), .val (.int n1)] [(.int (4 : Int32)), (.int n1)])) _
    refine XS.icmpNo X0.here hx rfl (hb hby d_method_5_code_53) rfl (flt hc53).1 ?_
    show Steps p.tables e below (s₁.setTop (mkF m 56 #[.val (.ref a1), .val (.int p2), .val (.int n1)] [])) _
    refine XS.aloadN X0.here hx rfl (hb hby d_method_5_code_56) rfl rfl ?_
    show Steps p.tables e below (s₁.setTop (mkF m 57 #[.val (.ref a1), .val (.int p2), .val (.int n1)] [(.ref a1)])) _
    refine XS.iconst X0.here hx rfl (hb hby d_method_5_code_57) ?_
    show Steps p.tables e below (s₁.setTop (mkF m 58 #[.val (.ref a1), .val (.int p2), .val (.int n1)] [(.int (3 : Int32)), (.ref a1)])) _
    refine X0.baloadBytes hx (j := (3 : Int32)) (v := (.int (own_by p2 (24 : Int32)))) (by rw [e0]; exact Ar5.1) (State.isArrayOf_alike hZ.alike Ar5.2.1) Ar5.2.2 hin5 hat5 (g := (mkF m 58 #[.val (.ref a1), .val (.int p2), .val (.int n1)] [(.int (3 : Int32)), (.ref a1)])) rfl rfl (hb hby d_method_5_code_58) _ ?_
    show Steps p.tables e below (s₁.setTop (mkF m 59 #[.val (.ref a1), .val (.int p2), .val (.int n1)] [(.int (own_by p2 (24 : Int32)))])) _
    refine XS.iloadN X0.here hx rfl (hb hby d_method_5_code_59) rfl ?_
    show Steps p.tables e below (s₁.setTop (mkF m 60 #[.val (.ref a1), .val (.int p2), .val (.int n1)] [(.int p2), (.int (own_by p2 (24 : Int32)))])) _
    refine XS.bipush X0.here hx rfl (hb hby d_method_5_code_60) ?_
    show Steps p.tables e below (s₁.setTop (mkF m 62 #[.val (.ref a1), .val (.int p2), .val (.int n1)] [(.int (24 : Int32)), (.int p2), (.int (own_by p2 (24 : Int32)))])) _
    refine XS.iushr X0.here hx rfl (hb hby d_method_5_code_62) rfl ?_
    show Steps p.tables e below (s₁.setTop (mkF m 63 #[.val (.ref a1), .val (.int p2), .val (.int n1)] [(.int ((p2.toUInt32 >>> ((24 : Int32) &&& 31).toUInt32).toInt32)), (.int (own_by p2 (24 : Int32)))])) _
    refine XS.i2b X0.here hx rfl (hb hby d_method_5_code_63) rfl ?_
    show Steps p.tables e below (s₁.setTop (mkF m 64 #[.val (.ref a1), .val (.int p2), .val (.int n1)] [(.int (own_by p2 (24 : Int32))), (.int (own_by p2 (24 : Int32)))])) _
    refine XS.icmpNo X0.here hx rfl (hb hby d_method_5_code_64) rfl (teq (rfl : (own_by p2 (24 : Int32)) = (own_by p2 (24 : Int32)))).2 ?_
    show Steps p.tables e below (s₁.setTop (mkF m 67 #[.val (.ref a1), .val (.int p2), .val (.int n1)] [])) _
    refine XS.iconst X0.here hx rfl (hb hby d_method_5_code_67) ?_
    show Steps p.tables e below (s₁.setTop (mkF m 68 #[.val (.ref a1), .val (.int p2), .val (.int n1)] [(.int (1 : Int32))])) _
    refine XS.goto X0.here hx rfl (pc0 := 68) (pc' := 72) rfl (hb hby d_method_5_code_68) (by decide) (by decide) ?_
    show Steps p.tables e below (s₁.setTop (mkF m 72 #[.val (.ref a1), .val (.int p2), .val (.int n1)] [(.int (1 : Int32))])) _
    exact retN X0 hx (t := .boolean) Bd.returns (by simp) (hb hby d_method_5_code_72) hr
  · show Q_rmSm Z a1 p2 n1 k1 h0 n0 _ s₁.heap _
    rw [e0]
    exact ⟨rfl, N0, rfl⟩
theorem rmSm (l : Launch) (Z : State) (a0 : Array Value) (hw : ∀ d ∈ tables_1, d.before a0 Z = true) (ws : List Jvm.Cond) (a1 : Addr) (p2 : Int32) (n1 : Int32) (k1 : ClassId) (h0 : Heap) (n0 : Nat) (Z0 : n0 ≤ h0.size) (V_a1 : Arv Z h0 a1 k1 .byte n1 (own_bs p2) (.int (0 : Int32))) (hn : own_B n1 4) :
    MetFree l (⟨"com/example/insistent_hook/insistenthook/store/KeysConcatPinLaw", "same", "([BII)Z"⟩ : MethodName) (head1 (Jvm.Cond.code (⟨"com/example/insistent_hook/insistenthook/store/KeysConcatPinLaw", "same", "([BII)Z"⟩ : MethodName) method_5_code 3 (some .boolean) :: ws) ({ frames := 0, cells := 0, slots := 0, locals := 0 } : Room)) (fun a U => a = #[(.ref a1), (.int p2), (.int n1)] ∧ Z.Warmed39 U.vm ∧ U.heap = h0) (fun _ _ _ _ _ => True) (fun _ U o U' => ∃ v L, o = .returned v ∧ Q_rmSm Z a1 p2 n1 k1 h0 n0 v U'.heap L ∧ FrameEnd U o U' L ({ frames := 0, cells := 0, slots := 0, locals := 0 } : Room).cells ({ frames := 0, cells := 0, slots := 0, locals := 0 } : Room).slots) := by
  by_cases hc8 : n1 < (1 : Int32)
  · skip
    by_cases hc21 : n1 < (2 : Int32)
    · skip
      by_cases hc37 : n1 < (3 : Int32)
      · skip
        by_cases hc53 : n1 < (4 : Int32)
        · skip
          exact rmSm_tttt l Z a0 hw ws a1 p2 n1 k1 h0 n0 Z0 V_a1 hn hc8 hc21 hc37 hc53
        · skip
          exfalso
          exact hc53 (Int32.lt_trans hc37 (by decide))
      · skip
        exfalso
        exact hc37 (Int32.lt_trans hc21 (by decide))
    · skip
      exfalso
      exact hc21 (Int32.lt_trans hc8 (by decide))
  · skip
    by_cases hc21 : n1 < (2 : Int32)
    · skip
      by_cases hc37 : n1 < (3 : Int32)
      · skip
        by_cases hc53 : n1 < (4 : Int32)
        · skip
          exact rmSm_fttt l Z a0 hw ws a1 p2 n1 k1 h0 n0 Z0 V_a1 hn hc8 hc21 hc37 hc53
        · skip
          exfalso
          exact hc53 (Int32.lt_trans hc37 (by decide))
      · skip
        exfalso
        exact hc37 (Int32.lt_trans hc21 (by decide))
    · skip
      by_cases hc37 : n1 < (3 : Int32)
      · skip
        by_cases hc53 : n1 < (4 : Int32)
        · skip
          exact rmSm_fftt l Z a0 hw ws a1 p2 n1 k1 h0 n0 Z0 V_a1 hn hc8 hc21 hc37 hc53
        · skip
          exfalso
          exact hc53 (Int32.lt_trans hc37 (by decide))
      · skip
        by_cases hc53 : n1 < (4 : Int32)
        · skip
          exact rmSm_ffft l Z a0 hw ws a1 p2 n1 k1 h0 n0 Z0 V_a1 hn hc8 hc21 hc37 hc53
        · skip
          exact rmSm_ffff l Z a0 hw ws a1 p2 n1 k1 h0 n0 Z0 V_a1 hn hc8 hc21 hc37 hc53
theorem pd_2 : parseMethodDescriptor "(II)[B" = some ⟨[.int, .int], some (.array .byte)⟩ := by decide +kernel
theorem pd_3 : parseMethodDescriptor "([B[B)[B" = some ⟨[(.array .byte), (.array .byte)], some (.array .byte)⟩ := by decide +kernel
theorem pd_4 : parseMethodDescriptor "([BIIIII)Z" = some ⟨[(.array .byte), .int, .int, .int, .int, .int], some .boolean⟩ := by decide +kernel
theorem pd_5 : parseMethodDescriptor "([BII)Z" = some ⟨[(.array .byte), .int, .int], some .boolean⟩ := by decide +kernel
def Q_rm0 (Z : State) (p1 : Int32) (p2 : Int32) (p3 : Int32) (h0 : Heap) (n0 : Nat) (v : Option Value) (h : Heap) (L : List Loc) : Prop := v = some (.int (1 : Int32)) ∧ Fr n0 L ∧ Keep h0 h []
theorem ef_6 (m : MethodId) (x0 : Int32) (x1 : Int32) (x2 : Int32) : entryFrame m #[(.int x0), (.int x1), (.int x2)] maxLocals = mkF m 0 #[.val (.int x0), .val (.int x1), .val (.int x2), .unset, .unset, .unset, .unset, .unset] [] := by first | (simp [entryFrame, mkF, argsToLocals, Value.category, maxLocals]; done) | rfl
set_option maxRecDepth 65536 in
set_option maxHeartbeats 40000000 in
theorem rm0 (l : Launch) (Z : State) (a0 : Array Value) (hw : ∀ d ∈ tables_1, d.before a0 Z = true) (ws : List Jvm.Cond) (p1 : Int32) (p2 : Int32) (p3 : Int32) (h0 : Heap) (n0 : Nat) (Z0 : n0 ≤ h0.size) :
    MetFree l x (head1 (Jvm.Cond.code x code maxLocals ret :: ws) room_1) (fun a U => a = #[(.int p1), (.int p2), (.int p3)] ∧ Z.Warmed39 U.vm ∧ U.heap = h0) (fun _ _ _ _ _ => True) (fun _ U o U' => ∃ v L, o = .returned v ∧ Q_rm0 Z p1 p2 p3 h0 n0 v U'.heap L ∧ FrameEnd U o U' L room_1.cells room_1.slots) := by
  refine MetFree.of_bodySF (plainFor_of_name pn_0) hisR ?_
  intro p e s m args below meth c s₁ Bd hml0 hP hK
  obtain ⟨rfl, hZ, hh⟩ := hP
  have hx := Bd.exec
  have hby := Bd.bytes
  have hml : c.maxLocals = 8 := hml0
  have hown : s.vm.findClass "com/example/insistent_hook/insistenthook/store/KeysConcatPinLaw" = some m.cls := findClass_of_methodNamed Bd.named
  have hnm := (name_of_methodNamed Bd.named Bd.method).1
  have X0 : Stand p l e room_1 s m #[(.int p1), (.int p2), (.int p3)] below meth c s₁ [] 0 0 := Stand.of_body Bd
  have e0 : s₁.heap = h0 := by rw [← hh, Bd.state]; rfl
  have N0 := Fr.nil n0
  have pre0 : ∀ t, Steps p.tables e below (s₁.setTop (mkF m 0 #[.val (.int p1), .val (.int p2), .val (.int p3), .unset, .unset, .unset, .unset, .unset] [])) t → Steps p.tables e below (s₁.setTop (entryFrame m #[(.int p1), (.int p2), (.int p3)] maxLocals)) t := fun t k => castTop (ef_6 m p1 p2 p3) k
  obtain ⟨_, _, ⟨T1, L1, k1, n1⟩, -, X1, ⟨Lc1, hQ1, l1, y1, z1⟩, st1⟩ := Jvm.LawKit.callS X0 hx (y := (⟨"com/example/insistent_hook/insistenthook/store/KeysConcatPinLaw", "make", "(II)[B"⟩ : MethodName)) hown (mvT hZ (hw _ (List.mem_of_getElem? (i := 0) rfl))) (mvT hZ (hw _ (List.mem_of_getElem? (i := 1) rfl))) (mvT hZ (hw _ (List.mem_of_getElem? (i := 2) rfl))) (mvT hZ (hw _ (List.mem_of_getElem? (i := 3) rfl))) (by decide) (backOf (W := 0) (rmMk l Z a0 hw [] p1 (own_la p3) h0 n0 Z0 (own_la_B p3)) hZ (hw _ (List.mem_of_getElem? (i := 3) rfl)) (hw _ (List.mem_of_getElem? (i := 2) rfl)) (by decide) (by decide)) (g := (mkF m 19 #[.val (.int p1), .val (.int p2), .val (.int p3), .val (.int (own_la p3)), .val (.int (own_lb p3)), .unset, .unset, .unset] [(.int (own_la p3)), (.int p1)])) rfl (by rw [hml]; rfl) (argsL := [(.int p1), (.int (own_la p3))]) (rest := []) (lenOf pd_2 rfl) rfl (by show 2 * 0 + _ ≤ _; exact Nat.le_of_eq rfl) (hb hby at_19) (fun _ _ => ⟨rfl, e0, (by decide : 0 + 1 ≤ _), (by decide : 0 + 4 ≤ _)⟩)
  dsimp only [Pt.U, Pt.locs, Pt.cells, Pt.slots] at X1 l1 y1 z1 st1 hQ1
  subst l1 y1 z1
  obtain ⟨b_1, k_1, rfl, N1q, K1, g_b_1, sq_b_1, p1_0, p1_1⟩ := hQ1
  have N1 := Fr.app N0 N1q
  have sz_b_1 : h0.size ≤ b_1 := Nat.le_trans (Keep.refl h0 []).1 sq_b_1
  have Q1 : Keep h0 T1.heap [] := (Keep.refl h0 []).trans K1 all0
  obtain ⟨_, _, ⟨T2, L2, k2, n2⟩, -, X2, ⟨Lc2, hQ2, l2, y2, z2⟩, st2⟩ := Jvm.LawKit.callS X1 hx (y := (⟨"com/example/insistent_hook/insistenthook/store/KeysConcatPinLaw", "make", "(II)[B"⟩ : MethodName)) hown (mvT hZ (hw _ (List.mem_of_getElem? (i := 0) rfl))) (mvT hZ (hw _ (List.mem_of_getElem? (i := 1) rfl))) (mvT hZ (hw _ (List.mem_of_getElem? (i := 2) rfl))) (mvT hZ (hw _ (List.mem_of_getElem? (i := 3) rfl))) (by decide) (backOf (W := 0) (rmMk l Z a0 hw [] p2 (own_lb p3) T1.heap n0 (Nat.le_trans Z0 K1.1) (own_lb_B p3)) hZ (hw _ (List.mem_of_getElem? (i := 3) rfl)) (hw _ (List.mem_of_getElem? (i := 2) rfl)) (by decide) (by decide)) (g := (mkF m 27 #[.val (.int p1), .val (.int p2), .val (.int p3), .val (.int (own_la p3)), .val (.int (own_lb p3)), .val (.ref b_1), .unset, .unset] [(.int (own_lb p3)), (.int p2)])) rfl (by rw [hml]; rfl) (argsL := [(.int p2), (.int (own_lb p3))]) (rest := []) (lenOf pd_2 rfl) rfl (by show 2 * 0 + _ ≤ _; exact Nat.le_of_eq rfl) (hb hby at_27) (fun _ _ => ⟨rfl, rfl, (by decide : 1 + 1 ≤ _), (by decide : 4 + 4 ≤ _)⟩)
  dsimp only [Pt.U, Pt.locs, Pt.cells, Pt.slots] at X2 l2 y2 z2 st2 hQ2
  subst l2 y2 z2
  obtain ⟨b_2, k_2, rfl, N2q, K2, g_b_2, sq_b_2, p2_0, p2_1⟩ := hQ2
  have N2 := Fr.app N1 N2q
  have sz_b_2 : h0.size ≤ b_2 := Nat.le_trans Q1.1 sq_b_2
  have Q2 : Keep h0 T2.heap [] := Q1.trans K2 all0
  obtain ⟨_, _, ⟨T3, L3, k3, n3⟩, -, X3, ⟨Lc3, hQ3, l3, y3, z3⟩, st3⟩ := Jvm.LawKit.callS X2 hx (y := (⟨"com/example/insistent_hook/insistenthook/store/Keys", "concat", "([B[B)[B"⟩ : MethodName)) hown (mvT hZ (hw _ (List.mem_of_getElem? (i := 5) rfl))) (mvT hZ (hw _ (List.mem_of_getElem? (i := 6) rfl))) (mvT hZ (hw _ (List.mem_of_getElem? (i := 7) rfl))) (mvT hZ (hw _ (List.mem_of_getElem? (i := 8) rfl))) (by decide) (backOf (W := 0) (rmC l Z a0 hw [] b_1 b_2 k_1 (own_la p3) (own_bs p1) k_2 (own_lb p3) (own_bs p2) T2.heap n0 (Nat.le_trans (Nat.le_trans Z0 K1.1) K2.1) (p1_0.keep K2 nin0) (p1_1.keep K2) p2_0 (own_la_B p3) (own_lb_B p3)) hZ (hw _ (List.mem_of_getElem? (i := 8) rfl)) (hw _ (List.mem_of_getElem? (i := 7) rfl)) (by decide) (by decide)) (g := (mkF m 36 #[.val (.int p1), .val (.int p2), .val (.int p3), .val (.int (own_la p3)), .val (.int (own_lb p3)), .val (.ref b_1), .val (.ref b_2), .unset] [(.ref b_2), (.ref b_1)])) rfl (by rw [hml]; rfl) (argsL := [(.ref b_1), (.ref b_2)]) (rest := []) (lenOf pd_3 rfl) rfl (by show 2 * 0 + _ ≤ _; exact Nat.le_of_eq rfl) (hb hby at_36) (fun _ _ => ⟨rfl, rfl, (by decide : 2 + 1 ≤ _), (by decide : 8 + 8 ≤ _)⟩)
  dsimp only [Pt.U, Pt.locs, Pt.cells, Pt.slots] at X3 l3 y3 z3 st3 hQ3
  subst l3 y3 z3
  obtain ⟨b_3, k_3, rfl, N3q, K3, g_b_3, sq_b_3, p3_0, p3_1⟩ := hQ3
  have N3 := Fr.app N2 N3q
  have sz_b_3 : h0.size ≤ b_3 := Nat.le_trans Q2.1 sq_b_3
  have Q3 : Keep h0 T3.heap [] := Q2.trans K3 all0
  obtain ⟨cl4, Ar4, q4, S4, M4, H4, G4⟩ := id p3_0
  obtain ⟨_, _, ⟨T5, L5, k5, n5⟩, -, X5, ⟨Lc5, hQ5, l5, y5, z5⟩, st5⟩ := Jvm.LawKit.callS X3 hx (y := (⟨"com/example/insistent_hook/insistenthook/store/KeysConcatPinLaw", "ok", "([BIIIII)Z"⟩ : MethodName)) hown (mvT hZ (hw _ (List.mem_of_getElem? (i := 26) rfl))) (mvT hZ (hw _ (List.mem_of_getElem? (i := 27) rfl))) (mvT hZ (hw _ (List.mem_of_getElem? (i := 2) rfl))) (mvT hZ (hw _ (List.mem_of_getElem? (i := 28) rfl))) (by decide) (backOf (W := 0) (rmOk l Z a0 hw [] b_3 (0 : Int32) (own_la p3) (own_lb p3) p1 p2 k_3 (own_cat (own_la p3) (own_bs p1) (own_bs p2)) T3.heap n0 (Nat.le_trans (Nat.le_trans (Nat.le_trans Z0 K1.1) K2.1) K3.1) p3_0 (by decide) (fun q => own_cat_at (own_la_B p3) (own_lb_B p3) p1 p2 (0 : Int32) (by decide) q (by decide) (by decide))) hZ (hw _ (List.mem_of_getElem? (i := 28) rfl)) (hw _ (List.mem_of_getElem? (i := 2) rfl)) (by decide) (by decide)) (g := (mkF m 66 #[.val (.int p1), .val (.int p2), .val (.int p3), .val (.int (own_la p3)), .val (.int (own_lb p3)), .val (.ref b_1), .val (.ref b_2), .val (.ref b_3)] [(.int p2), (.int p1), (.int (own_lb p3)), (.int (own_la p3)), (.int (0 : Int32)), (.ref b_3)])) rfl (by rw [hml]; rfl) (argsL := [(.ref b_3), (.int (0 : Int32)), (.int (own_la p3)), (.int (own_lb p3)), (.int p1), (.int p2)]) (rest := []) (lenOf pd_4 rfl) rfl (by show 2 * 0 + _ ≤ _; exact Nat.le_of_eq rfl) (hb hby at_66) (fun _ _ => ⟨rfl, rfl, (by decide : 3 + 0 ≤ _), (by decide : 16 + 0 ≤ _)⟩)
  dsimp only [Pt.U, Pt.locs, Pt.cells, Pt.slots] at X5 l5 y5 z5 st5 hQ5
  subst l5 y5 z5
  obtain ⟨rfl, N5q, e5⟩ := hQ5
  have N5 := Fr.app N3 N5q
  obtain ⟨_, _, ⟨T6, L6, k6, n6⟩, -, X6, ⟨Lc6, hQ6, l6, y6, z6⟩, st6⟩ := Jvm.LawKit.callS X5 hx (y := (⟨"com/example/insistent_hook/insistenthook/store/KeysConcatPinLaw", "ok", "([BIIIII)Z"⟩ : MethodName)) hown (mvT hZ (hw _ (List.mem_of_getElem? (i := 26) rfl))) (mvT hZ (hw _ (List.mem_of_getElem? (i := 27) rfl))) (mvT hZ (hw _ (List.mem_of_getElem? (i := 2) rfl))) (mvT hZ (hw _ (List.mem_of_getElem? (i := 28) rfl))) (by decide) (backOf (W := 0) (rmOk l Z a0 hw [] b_3 (1 : Int32) (own_la p3) (own_lb p3) p1 p2 k_3 (own_cat (own_la p3) (own_bs p1) (own_bs p2)) T3.heap n0 (Nat.le_trans (Nat.le_trans (Nat.le_trans Z0 K1.1) K2.1) K3.1) p3_0 (by decide) (fun q => own_cat_at (own_la_B p3) (own_lb_B p3) p1 p2 (1 : Int32) (by decide) q (by decide) (by decide))) hZ (hw _ (List.mem_of_getElem? (i := 28) rfl)) (hw _ (List.mem_of_getElem? (i := 2) rfl)) (by decide) (by decide)) (g := (mkF m 80 #[.val (.int p1), .val (.int p2), .val (.int p3), .val (.int (own_la p3)), .val (.int (own_lb p3)), .val (.ref b_1), .val (.ref b_2), .val (.ref b_3)] [(.int p2), (.int p1), (.int (own_lb p3)), (.int (own_la p3)), (.int (1 : Int32)), (.ref b_3)])) rfl (by rw [hml]; rfl) (argsL := [(.ref b_3), (.int (1 : Int32)), (.int (own_la p3)), (.int (own_lb p3)), (.int p1), (.int p2)]) (rest := []) (lenOf pd_4 rfl) rfl (by show 2 * 0 + _ ≤ _; exact Nat.le_of_eq rfl) (hb hby at_80) (fun _ _ => ⟨rfl, e5, (by decide : 3 + 0 ≤ _), (by decide : 16 + 0 ≤ _)⟩)
  dsimp only [Pt.U, Pt.locs, Pt.cells, Pt.slots] at X6 l6 y6 z6 st6 hQ6
  subst l6 y6 z6
  obtain ⟨rfl, N6q, e6⟩ := hQ6
  have N6 := Fr.app N5 N6q
  obtain ⟨_, _, ⟨T7, L7, k7, n7⟩, -, X7, ⟨Lc7, hQ7, l7, y7, z7⟩, st7⟩ := Jvm.LawKit.callS X6 hx (y := (⟨"com/example/insistent_hook/insistenthook/store/KeysConcatPinLaw", "ok", "([BIIIII)Z"⟩ : MethodName)) hown (mvT hZ (hw _ (List.mem_of_getElem? (i := 26) rfl))) (mvT hZ (hw _ (List.mem_of_getElem? (i := 27) rfl))) (mvT hZ (hw _ (List.mem_of_getElem? (i := 2) rfl))) (mvT hZ (hw _ (List.mem_of_getElem? (i := 28) rfl))) (by decide) (backOf (W := 0) (rmOk l Z a0 hw [] b_3 (2 : Int32) (own_la p3) (own_lb p3) p1 p2 k_3 (own_cat (own_la p3) (own_bs p1) (own_bs p2)) T3.heap n0 (Nat.le_trans (Nat.le_trans (Nat.le_trans Z0 K1.1) K2.1) K3.1) p3_0 (by decide) (fun q => own_cat_at (own_la_B p3) (own_lb_B p3) p1 p2 (2 : Int32) (by decide) q (by decide) (by decide))) hZ (hw _ (List.mem_of_getElem? (i := 28) rfl)) (hw _ (List.mem_of_getElem? (i := 2) rfl)) (by decide) (by decide)) (g := (mkF m 94 #[.val (.int p1), .val (.int p2), .val (.int p3), .val (.int (own_la p3)), .val (.int (own_lb p3)), .val (.ref b_1), .val (.ref b_2), .val (.ref b_3)] [(.int p2), (.int p1), (.int (own_lb p3)), (.int (own_la p3)), (.int (2 : Int32)), (.ref b_3)])) rfl (by rw [hml]; rfl) (argsL := [(.ref b_3), (.int (2 : Int32)), (.int (own_la p3)), (.int (own_lb p3)), (.int p1), (.int p2)]) (rest := []) (lenOf pd_4 rfl) rfl (by show 2 * 0 + _ ≤ _; exact Nat.le_of_eq rfl) (hb hby at_94) (fun _ _ => ⟨rfl, e6, (by decide : 3 + 0 ≤ _), (by decide : 16 + 0 ≤ _)⟩)
  dsimp only [Pt.U, Pt.locs, Pt.cells, Pt.slots] at X7 l7 y7 z7 st7 hQ7
  subst l7 y7 z7
  obtain ⟨rfl, N7q, e7⟩ := hQ7
  have N7 := Fr.app N6 N7q
  obtain ⟨_, _, ⟨T8, L8, k8, n8⟩, -, X8, ⟨Lc8, hQ8, l8, y8, z8⟩, st8⟩ := Jvm.LawKit.callS X7 hx (y := (⟨"com/example/insistent_hook/insistenthook/store/KeysConcatPinLaw", "ok", "([BIIIII)Z"⟩ : MethodName)) hown (mvT hZ (hw _ (List.mem_of_getElem? (i := 26) rfl))) (mvT hZ (hw _ (List.mem_of_getElem? (i := 27) rfl))) (mvT hZ (hw _ (List.mem_of_getElem? (i := 2) rfl))) (mvT hZ (hw _ (List.mem_of_getElem? (i := 28) rfl))) (by decide) (backOf (W := 0) (rmOk l Z a0 hw [] b_3 (3 : Int32) (own_la p3) (own_lb p3) p1 p2 k_3 (own_cat (own_la p3) (own_bs p1) (own_bs p2)) T3.heap n0 (Nat.le_trans (Nat.le_trans (Nat.le_trans Z0 K1.1) K2.1) K3.1) p3_0 (by decide) (fun q => own_cat_at (own_la_B p3) (own_lb_B p3) p1 p2 (3 : Int32) (by decide) q (by decide) (by decide))) hZ (hw _ (List.mem_of_getElem? (i := 28) rfl)) (hw _ (List.mem_of_getElem? (i := 2) rfl)) (by decide) (by decide)) (g := (mkF m 108 #[.val (.int p1), .val (.int p2), .val (.int p3), .val (.int (own_la p3)), .val (.int (own_lb p3)), .val (.ref b_1), .val (.ref b_2), .val (.ref b_3)] [(.int p2), (.int p1), (.int (own_lb p3)), (.int (own_la p3)), (.int (3 : Int32)), (.ref b_3)])) rfl (by rw [hml]; rfl) (argsL := [(.ref b_3), (.int (3 : Int32)), (.int (own_la p3)), (.int (own_lb p3)), (.int p1), (.int p2)]) (rest := []) (lenOf pd_4 rfl) rfl (by show 2 * 0 + _ ≤ _; exact Nat.le_of_eq rfl) (hb hby at_108) (fun _ _ => ⟨rfl, e7, (by decide : 3 + 0 ≤ _), (by decide : 16 + 0 ≤ _)⟩)
  dsimp only [Pt.U, Pt.locs, Pt.cells, Pt.slots] at X8 l8 y8 z8 st8 hQ8
  subst l8 y8 z8
  obtain ⟨rfl, N8q, e8⟩ := hQ8
  have N8 := Fr.app N7 N8q
  obtain ⟨_, _, ⟨T9, L9, k9, n9⟩, -, X9, ⟨Lc9, hQ9, l9, y9, z9⟩, st9⟩ := Jvm.LawKit.callS X8 hx (y := (⟨"com/example/insistent_hook/insistenthook/store/KeysConcatPinLaw", "ok", "([BIIIII)Z"⟩ : MethodName)) hown (mvT hZ (hw _ (List.mem_of_getElem? (i := 26) rfl))) (mvT hZ (hw _ (List.mem_of_getElem? (i := 27) rfl))) (mvT hZ (hw _ (List.mem_of_getElem? (i := 2) rfl))) (mvT hZ (hw _ (List.mem_of_getElem? (i := 28) rfl))) (by decide) (backOf (W := 0) (rmOk l Z a0 hw [] b_3 (4 : Int32) (own_la p3) (own_lb p3) p1 p2 k_3 (own_cat (own_la p3) (own_bs p1) (own_bs p2)) T3.heap n0 (Nat.le_trans (Nat.le_trans (Nat.le_trans Z0 K1.1) K2.1) K3.1) p3_0 (by decide) (fun q => own_cat_at (own_la_B p3) (own_lb_B p3) p1 p2 (4 : Int32) (by decide) q (by decide) (by decide))) hZ (hw _ (List.mem_of_getElem? (i := 28) rfl)) (hw _ (List.mem_of_getElem? (i := 2) rfl)) (by decide) (by decide)) (g := (mkF m 122 #[.val (.int p1), .val (.int p2), .val (.int p3), .val (.int (own_la p3)), .val (.int (own_lb p3)), .val (.ref b_1), .val (.ref b_2), .val (.ref b_3)] [(.int p2), (.int p1), (.int (own_lb p3)), (.int (own_la p3)), (.int (4 : Int32)), (.ref b_3)])) rfl (by rw [hml]; rfl) (argsL := [(.ref b_3), (.int (4 : Int32)), (.int (own_la p3)), (.int (own_lb p3)), (.int p1), (.int p2)]) (rest := []) (lenOf pd_4 rfl) rfl (by show 2 * 0 + _ ≤ _; exact Nat.le_of_eq rfl) (hb hby at_122) (fun _ _ => ⟨rfl, e8, (by decide : 3 + 0 ≤ _), (by decide : 16 + 0 ≤ _)⟩)
  dsimp only [Pt.U, Pt.locs, Pt.cells, Pt.slots] at X9 l9 y9 z9 st9 hQ9
  subst l9 y9 z9
  obtain ⟨rfl, N9q, e9⟩ := hQ9
  have N9 := Fr.app N8 N9q
  obtain ⟨_, _, ⟨T10, L10, k10, n10⟩, -, X10, ⟨Lc10, hQ10, l10, y10, z10⟩, st10⟩ := Jvm.LawKit.callS X9 hx (y := (⟨"com/example/insistent_hook/insistenthook/store/KeysConcatPinLaw", "ok", "([BIIIII)Z"⟩ : MethodName)) hown (mvT hZ (hw _ (List.mem_of_getElem? (i := 26) rfl))) (mvT hZ (hw _ (List.mem_of_getElem? (i := 27) rfl))) (mvT hZ (hw _ (List.mem_of_getElem? (i := 2) rfl))) (mvT hZ (hw _ (List.mem_of_getElem? (i := 28) rfl))) (by decide) (backOf (W := 0) (rmOk l Z a0 hw [] b_3 (5 : Int32) (own_la p3) (own_lb p3) p1 p2 k_3 (own_cat (own_la p3) (own_bs p1) (own_bs p2)) T3.heap n0 (Nat.le_trans (Nat.le_trans (Nat.le_trans Z0 K1.1) K2.1) K3.1) p3_0 (by decide) (fun q => own_cat_at (own_la_B p3) (own_lb_B p3) p1 p2 (5 : Int32) (by decide) q (by decide) (by decide))) hZ (hw _ (List.mem_of_getElem? (i := 28) rfl)) (hw _ (List.mem_of_getElem? (i := 2) rfl)) (by decide) (by decide)) (g := (mkF m 136 #[.val (.int p1), .val (.int p2), .val (.int p3), .val (.int (own_la p3)), .val (.int (own_lb p3)), .val (.ref b_1), .val (.ref b_2), .val (.ref b_3)] [(.int p2), (.int p1), (.int (own_lb p3)), (.int (own_la p3)), (.int (5 : Int32)), (.ref b_3)])) rfl (by rw [hml]; rfl) (argsL := [(.ref b_3), (.int (5 : Int32)), (.int (own_la p3)), (.int (own_lb p3)), (.int p1), (.int p2)]) (rest := []) (lenOf pd_4 rfl) rfl (by show 2 * 0 + _ ≤ _; exact Nat.le_of_eq rfl) (hb hby at_136) (fun _ _ => ⟨rfl, e9, (by decide : 3 + 0 ≤ _), (by decide : 16 + 0 ≤ _)⟩)
  dsimp only [Pt.U, Pt.locs, Pt.cells, Pt.slots] at X10 l10 y10 z10 st10 hQ10
  subst l10 y10 z10
  obtain ⟨rfl, N10q, e10⟩ := hQ10
  have N10 := Fr.app N9 N10q
  obtain ⟨_, _, ⟨T11, L11, k11, n11⟩, -, X11, ⟨Lc11, hQ11, l11, y11, z11⟩, st11⟩ := Jvm.LawKit.callS X10 hx (y := (⟨"com/example/insistent_hook/insistenthook/store/KeysConcatPinLaw", "ok", "([BIIIII)Z"⟩ : MethodName)) hown (mvT hZ (hw _ (List.mem_of_getElem? (i := 26) rfl))) (mvT hZ (hw _ (List.mem_of_getElem? (i := 27) rfl))) (mvT hZ (hw _ (List.mem_of_getElem? (i := 2) rfl))) (mvT hZ (hw _ (List.mem_of_getElem? (i := 28) rfl))) (by decide) (backOf (W := 0) (rmOk l Z a0 hw [] b_3 (6 : Int32) (own_la p3) (own_lb p3) p1 p2 k_3 (own_cat (own_la p3) (own_bs p1) (own_bs p2)) T3.heap n0 (Nat.le_trans (Nat.le_trans (Nat.le_trans Z0 K1.1) K2.1) K3.1) p3_0 (by decide) (fun q => own_cat_at (own_la_B p3) (own_lb_B p3) p1 p2 (6 : Int32) (by decide) q (by decide) (by decide))) hZ (hw _ (List.mem_of_getElem? (i := 28) rfl)) (hw _ (List.mem_of_getElem? (i := 2) rfl)) (by decide) (by decide)) (g := (mkF m 151 #[.val (.int p1), .val (.int p2), .val (.int p3), .val (.int (own_la p3)), .val (.int (own_lb p3)), .val (.ref b_1), .val (.ref b_2), .val (.ref b_3)] [(.int p2), (.int p1), (.int (own_lb p3)), (.int (own_la p3)), (.int (6 : Int32)), (.ref b_3)])) rfl (by rw [hml]; rfl) (argsL := [(.ref b_3), (.int (6 : Int32)), (.int (own_la p3)), (.int (own_lb p3)), (.int p1), (.int p2)]) (rest := []) (lenOf pd_4 rfl) rfl (by show 2 * 0 + _ ≤ _; exact Nat.le_of_eq rfl) (hb hby at_151) (fun _ _ => ⟨rfl, e10, (by decide : 3 + 0 ≤ _), (by decide : 16 + 0 ≤ _)⟩)
  dsimp only [Pt.U, Pt.locs, Pt.cells, Pt.slots] at X11 l11 y11 z11 st11 hQ11
  subst l11 y11 z11
  obtain ⟨rfl, N11q, e11⟩ := hQ11
  have N11 := Fr.app N10 N11q
  obtain ⟨_, _, ⟨T12, L12, k12, n12⟩, -, X12, ⟨Lc12, hQ12, l12, y12, z12⟩, st12⟩ := Jvm.LawKit.callS X11 hx (y := (⟨"com/example/insistent_hook/insistenthook/store/KeysConcatPinLaw", "ok", "([BIIIII)Z"⟩ : MethodName)) hown (mvT hZ (hw _ (List.mem_of_getElem? (i := 26) rfl))) (mvT hZ (hw _ (List.mem_of_getElem? (i := 27) rfl))) (mvT hZ (hw _ (List.mem_of_getElem? (i := 2) rfl))) (mvT hZ (hw _ (List.mem_of_getElem? (i := 28) rfl))) (by decide) (backOf (W := 0) (rmOk l Z a0 hw [] b_3 (7 : Int32) (own_la p3) (own_lb p3) p1 p2 k_3 (own_cat (own_la p3) (own_bs p1) (own_bs p2)) T3.heap n0 (Nat.le_trans (Nat.le_trans (Nat.le_trans Z0 K1.1) K2.1) K3.1) p3_0 (by decide) (fun q => own_cat_at (own_la_B p3) (own_lb_B p3) p1 p2 (7 : Int32) (by decide) q (by decide) (by decide))) hZ (hw _ (List.mem_of_getElem? (i := 28) rfl)) (hw _ (List.mem_of_getElem? (i := 2) rfl)) (by decide) (by decide)) (g := (mkF m 166 #[.val (.int p1), .val (.int p2), .val (.int p3), .val (.int (own_la p3)), .val (.int (own_lb p3)), .val (.ref b_1), .val (.ref b_2), .val (.ref b_3)] [(.int p2), (.int p1), (.int (own_lb p3)), (.int (own_la p3)), (.int (7 : Int32)), (.ref b_3)])) rfl (by rw [hml]; rfl) (argsL := [(.ref b_3), (.int (7 : Int32)), (.int (own_la p3)), (.int (own_lb p3)), (.int p1), (.int p2)]) (rest := []) (lenOf pd_4 rfl) rfl (by show 2 * 0 + _ ≤ _; exact Nat.le_of_eq rfl) (hb hby at_166) (fun _ _ => ⟨rfl, e11, (by decide : 3 + 0 ≤ _), (by decide : 16 + 0 ≤ _)⟩)
  dsimp only [Pt.U, Pt.locs, Pt.cells, Pt.slots] at X12 l12 y12 z12 st12 hQ12
  subst l12 y12 z12
  obtain ⟨rfl, N12q, e12⟩ := hQ12
  have N12 := Fr.app N11 N12q
  obtain ⟨_, _, ⟨T13, L13, k13, n13⟩, -, X13, ⟨Lc13, hQ13, l13, y13, z13⟩, st13⟩ := Jvm.LawKit.callS X12 hx (y := (⟨"com/example/insistent_hook/insistenthook/store/KeysConcatPinLaw", "same", "([BII)Z"⟩ : MethodName)) hown (mvT hZ (hw _ (List.mem_of_getElem? (i := 29) rfl))) (mvT hZ (hw _ (List.mem_of_getElem? (i := 30) rfl))) (mvT hZ (hw _ (List.mem_of_getElem? (i := 2) rfl))) (mvT hZ (hw _ (List.mem_of_getElem? (i := 31) rfl))) (by decide) (backOf (W := 0) (rmSm l Z a0 hw [] b_1 p1 (own_la p3) k_1 T3.heap n0 (Nat.le_trans (Nat.le_trans (Nat.le_trans Z0 K1.1) K2.1) K3.1) ((p1_0.keep K2 nin0).keep K3 nin0) (own_la_B p3)) hZ (hw _ (List.mem_of_getElem? (i := 31) rfl)) (hw _ (List.mem_of_getElem? (i := 2) rfl)) (by decide) (by decide)) (g := (mkF m 176 #[.val (.int p1), .val (.int p2), .val (.int p3), .val (.int (own_la p3)), .val (.int (own_lb p3)), .val (.ref b_1), .val (.ref b_2), .val (.ref b_3)] [(.int (own_la p3)), (.int p1), (.ref b_1)])) rfl (by rw [hml]; rfl) (argsL := [(.ref b_1), (.int p1), (.int (own_la p3))]) (rest := []) (lenOf pd_5 rfl) rfl (by show 2 * 0 + _ ≤ _; exact Nat.le_of_eq rfl) (hb hby at_176) (fun _ _ => ⟨rfl, e12, (by decide : 3 + 0 ≤ _), (by decide : 16 + 0 ≤ _)⟩)
  dsimp only [Pt.U, Pt.locs, Pt.cells, Pt.slots] at X13 l13 y13 z13 st13 hQ13
  subst l13 y13 z13
  obtain ⟨rfl, N13q, e13⟩ := hQ13
  have N13 := Fr.app N12 N13q
  obtain ⟨_, _, ⟨T14, L14, k14, n14⟩, -, X14, ⟨Lc14, hQ14, l14, y14, z14⟩, st14⟩ := Jvm.LawKit.callS X13 hx (y := (⟨"com/example/insistent_hook/insistenthook/store/KeysConcatPinLaw", "same", "([BII)Z"⟩ : MethodName)) hown (mvT hZ (hw _ (List.mem_of_getElem? (i := 29) rfl))) (mvT hZ (hw _ (List.mem_of_getElem? (i := 30) rfl))) (mvT hZ (hw _ (List.mem_of_getElem? (i := 2) rfl))) (mvT hZ (hw _ (List.mem_of_getElem? (i := 31) rfl))) (by decide) (backOf (W := 0) (rmSm l Z a0 hw [] b_2 p2 (own_lb p3) k_2 T3.heap n0 (Nat.le_trans (Nat.le_trans (Nat.le_trans Z0 K1.1) K2.1) K3.1) (p2_0.keep K3 nin0) (own_lb_B p3)) hZ (hw _ (List.mem_of_getElem? (i := 31) rfl)) (hw _ (List.mem_of_getElem? (i := 2) rfl)) (by decide) (by decide)) (g := (mkF m 187 #[.val (.int p1), .val (.int p2), .val (.int p3), .val (.int (own_la p3)), .val (.int (own_lb p3)), .val (.ref b_1), .val (.ref b_2), .val (.ref b_3)] [(.int (own_lb p3)), (.int p2), (.ref b_2)])) rfl (by rw [hml]; rfl) (argsL := [(.ref b_2), (.int p2), (.int (own_lb p3))]) (rest := []) (lenOf pd_5 rfl) rfl (by show 2 * 0 + _ ≤ _; exact Nat.le_of_eq rfl) (hb hby at_187) (fun _ _ => ⟨rfl, e13, (by decide : 3 + 0 ≤ _), (by decide : 16 + 0 ≤ _)⟩)
  dsimp only [Pt.U, Pt.locs, Pt.cells, Pt.slots] at X14 l14 y14 z14 st14 hQ14
  subst l14 y14 z14
  obtain ⟨rfl, N14q, e14⟩ := hQ14
  have N14 := Fr.app N13 N14q
  obtain ⟨fs, hr, hrun, hended, hW, hsame⟩ := X14.leave (v := some (.int (1 : Int32))) (fun h => by rw [Bd.returns] at h; cases h)
  refine ⟨_, _, pre0 _ ?_, hrun, hended, _, _, rfl, ?_, ⟨_, rfl⟩, hW, hsame.mono (by decide) (by decide)⟩
  · show Steps p.tables e below (s₁.setTop (mkF m 0 #[.val (.int p1), .val (.int p2), .val (.int p3), .unset, .unset, .unset, .unset, .unset] [])) _
    refine XS.iloadN X0.here hx rfl (hb hby at_0) rfl ?_
    show Steps p.tables e below (s₁.setTop (mkF m 1 #[.val (.int p1), .val (.int p2), .val (.int p3), .unset, .unset, .unset, .unset, .unset] [(.int p3)])) _
    refine XS.bipush X0.here hx rfl (hb hby at_1) ?_
    show Steps p.tables e below (s₁.setTop (mkF m 3 #[.val (.int p1), .val (.int p2), .val (.int p3), .unset, .unset, .unset, .unset, .unset] [(.int (7 : Int32)), (.int p3)])) _
    refine XS.iand X0.here hx rfl (hb hby at_3) rfl ?_
    show Steps p.tables e below (s₁.setTop (mkF m 4 #[.val (.int p1), .val (.int p2), .val (.int p3), .unset, .unset, .unset, .unset, .unset] [(.int (p3 &&& (7 : Int32)))])) _
    refine XS.iconst X0.here hx rfl (hb hby at_4) ?_
    show Steps p.tables e below (s₁.setTop (mkF m 5 #[.val (.int p1), .val (.int p2), .val (.int p3), .unset, .unset, .unset, .unset, .unset] [(.int (5 : Int32)), (.int (p3 &&& (7 : Int32)))])) _
    refine iremM X0 hx rfl (hb hby at_5) rfl (by decide) ?_
    show Steps p.tables e below (s₁.setTop (mkF m 6 #[.val (.int p1), .val (.int p2), .val (.int p3), .unset, .unset, .unset, .unset, .unset] [(.int (own_la p3))])) _
    refine XS.istoreN X0.here hx rfl (hb hby at_6) rfl (l' := #[.val (.int p1), .val (.int p2), .val (.int p3), .val (.int (own_la p3)), .unset, .unset, .unset, .unset]) rfl ?_
    show Steps p.tables e below (s₁.setTop (mkF m 7 #[.val (.int p1), .val (.int p2), .val (.int p3), .val (.int (own_la p3)), .unset, .unset, .unset, .unset] [])) _
    refine XS.iloadN X0.here hx rfl (hb hby at_7) rfl ?_
    show Steps p.tables e below (s₁.setTop (mkF m 8 #[.val (.int p1), .val (.int p2), .val (.int p3), .val (.int (own_la p3)), .unset, .unset, .unset, .unset] [(.int p3)])) _
    refine XS.iconst X0.here hx rfl (hb hby at_8) ?_
    show Steps p.tables e below (s₁.setTop (mkF m 9 #[.val (.int p1), .val (.int p2), .val (.int p3), .val (.int (own_la p3)), .unset, .unset, .unset, .unset] [(.int (3 : Int32)), (.int p3)])) _
    refine XS.iushr X0.here hx rfl (hb hby at_9) rfl ?_
    show Steps p.tables e below (s₁.setTop (mkF m 10 #[.val (.int p1), .val (.int p2), .val (.int p3), .val (.int (own_la p3)), .unset, .unset, .unset, .unset] [(.int ((p3.toUInt32 >>> ((3 : Int32) &&& 31).toUInt32).toInt32))])) _
    refine XS.bipush X0.here hx rfl (hb hby at_10) ?_
    show Steps p.tables e below (s₁.setTop (mkF m 12 #[.val (.int p1), .val (.int p2), .val (.int p3), .val (.int (own_la p3)), .unset, .unset, .unset, .unset] [(.int (7 : Int32)), (.int ((p3.toUInt32 >>> ((3 : Int32) &&& 31).toUInt32).toInt32))])) _
    refine XS.iand X0.here hx rfl (hb hby at_12) rfl ?_
    show Steps p.tables e below (s₁.setTop (mkF m 13 #[.val (.int p1), .val (.int p2), .val (.int p3), .val (.int (own_la p3)), .unset, .unset, .unset, .unset] [(.int (((p3.toUInt32 >>> ((3 : Int32) &&& 31).toUInt32).toInt32) &&& (7 : Int32)))])) _
    refine XS.iconst X0.here hx rfl (hb hby at_13) ?_
    show Steps p.tables e below (s₁.setTop (mkF m 14 #[.val (.int p1), .val (.int p2), .val (.int p3), .val (.int (own_la p3)), .unset, .unset, .unset, .unset] [(.int (5 : Int32)), (.int (((p3.toUInt32 >>> ((3 : Int32) &&& 31).toUInt32).toInt32) &&& (7 : Int32)))])) _
    refine iremM X0 hx rfl (hb hby at_14) rfl (by decide) ?_
    show Steps p.tables e below (s₁.setTop (mkF m 15 #[.val (.int p1), .val (.int p2), .val (.int p3), .val (.int (own_la p3)), .unset, .unset, .unset, .unset] [(.int (own_lb p3))])) _
    refine XS.istore X0.here hx rfl (hb hby at_15) rfl (l' := #[.val (.int p1), .val (.int p2), .val (.int p3), .val (.int (own_la p3)), .val (.int (own_lb p3)), .unset, .unset, .unset]) rfl ?_
    show Steps p.tables e below (s₁.setTop (mkF m 17 #[.val (.int p1), .val (.int p2), .val (.int p3), .val (.int (own_la p3)), .val (.int (own_lb p3)), .unset, .unset, .unset] [])) _
    refine XS.iloadN X0.here hx rfl (hb hby at_17) rfl ?_
    show Steps p.tables e below (s₁.setTop (mkF m 18 #[.val (.int p1), .val (.int p2), .val (.int p3), .val (.int (own_la p3)), .val (.int (own_lb p3)), .unset, .unset, .unset] [(.int p1)])) _
    refine XS.iloadN X0.here hx rfl (hb hby at_18) rfl ?_
    show Steps p.tables e below (s₁.setTop (mkF m 19 #[.val (.int p1), .val (.int p2), .val (.int p3), .val (.int (own_la p3)), .val (.int (own_lb p3)), .unset, .unset, .unset] [(.int (own_la p3)), (.int p1)])) _
    refine st1 _ ?_
    show Steps p.tables e below (T1.setTop (mkF m 22 #[.val (.int p1), .val (.int p2), .val (.int p3), .val (.int (own_la p3)), .val (.int (own_lb p3)), .unset, .unset, .unset] [(.ref b_1)])) _
    refine XS.astore X1.here hx rfl (hb hby at_22) rfl rfl (l' := #[.val (.int p1), .val (.int p2), .val (.int p3), .val (.int (own_la p3)), .val (.int (own_lb p3)), .val (.ref b_1), .unset, .unset]) rfl ?_
    show Steps p.tables e below (T1.setTop (mkF m 24 #[.val (.int p1), .val (.int p2), .val (.int p3), .val (.int (own_la p3)), .val (.int (own_lb p3)), .val (.ref b_1), .unset, .unset] [])) _
    refine XS.iloadN X1.here hx rfl (hb hby at_24) rfl ?_
    show Steps p.tables e below (T1.setTop (mkF m 25 #[.val (.int p1), .val (.int p2), .val (.int p3), .val (.int (own_la p3)), .val (.int (own_lb p3)), .val (.ref b_1), .unset, .unset] [(.int p2)])) _
    refine XS.iload X1.here hx rfl (hb hby at_25) rfl ?_
    show Steps p.tables e below (T1.setTop (mkF m 27 #[.val (.int p1), .val (.int p2), .val (.int p3), .val (.int (own_la p3)), .val (.int (own_lb p3)), .val (.ref b_1), .unset, .unset] [(.int (own_lb p3)), (.int p2)])) _
    refine st2 _ ?_
    show Steps p.tables e below (T2.setTop (mkF m 30 #[.val (.int p1), .val (.int p2), .val (.int p3), .val (.int (own_la p3)), .val (.int (own_lb p3)), .val (.ref b_1), .unset, .unset] [(.ref b_2)])) _
    refine XS.astore X2.here hx rfl (hb hby at_30) rfl rfl (l' := #[.val (.int p1), .val (.int p2), .val (.int p3), .val (.int (own_la p3)), .val (.int (own_lb p3)), .val (.ref b_1), .val (.ref b_2), .unset]) rfl ?_
    show Steps p.tables e below (T2.setTop (mkF m 32 #[.val (.int p1), .val (.int p2), .val (.int p3), .val (.int (own_la p3)), .val (.int (own_lb p3)), .val (.ref b_1), .val (.ref b_2), .unset] [])) _
    refine XS.aload X2.here hx rfl (hb hby at_32) rfl rfl ?_
    show Steps p.tables e below (T2.setTop (mkF m 34 #[.val (.int p1), .val (.int p2), .val (.int p3), .val (.int (own_la p3)), .val (.int (own_lb p3)), .val (.ref b_1), .val (.ref b_2), .unset] [(.ref b_1)])) _
    refine XS.aload X2.here hx rfl (hb hby at_34) rfl rfl ?_
    show Steps p.tables e below (T2.setTop (mkF m 36 #[.val (.int p1), .val (.int p2), .val (.int p3), .val (.int (own_la p3)), .val (.int (own_lb p3)), .val (.ref b_1), .val (.ref b_2), .unset] [(.ref b_2), (.ref b_1)])) _
    refine st3 _ ?_
    show Steps p.tables e below (T3.setTop (mkF m 39 #[.val (.int p1), .val (.int p2), .val (.int p3), .val (.int (own_la p3)), .val (.int (own_lb p3)), .val (.ref b_1), .val (.ref b_2), .unset] [(.ref b_3)])) _
    refine XS.astore X3.here hx rfl (hb hby at_39) rfl rfl (l' := #[.val (.int p1), .val (.int p2), .val (.int p3), .val (.int (own_la p3)), .val (.int (own_lb p3)), .val (.ref b_1), .val (.ref b_2), .val (.ref b_3)]) rfl ?_
    show Steps p.tables e below (T3.setTop (mkF m 41 #[.val (.int p1), .val (.int p2), .val (.int p3), .val (.int (own_la p3)), .val (.int (own_lb p3)), .val (.ref b_1), .val (.ref b_2), .val (.ref b_3)] [])) _
    refine XS.aload X3.here hx rfl (hb hby at_41) rfl rfl ?_
    show Steps p.tables e below (T3.setTop (mkF m 43 #[.val (.int p1), .val (.int p2), .val (.int p3), .val (.int (own_la p3)), .val (.int (own_lb p3)), .val (.ref b_1), .val (.ref b_2), .val (.ref b_3)] [(.ref b_3)])) _
    refine XS.ifnullNo X3.here hx rfl (hb hby at_43) rfl ?_
    show Steps p.tables e below (T3.setTop (mkF m 46 #[.val (.int p1), .val (.int p2), .val (.int p3), .val (.int (own_la p3)), .val (.int (own_lb p3)), .val (.ref b_1), .val (.ref b_2), .val (.ref b_3)] [])) _
    refine XS.aload X3.here hx rfl (hb hby at_46) rfl rfl ?_
    show Steps p.tables e below (T3.setTop (mkF m 48 #[.val (.int p1), .val (.int p2), .val (.int p3), .val (.int (own_la p3)), .val (.int (own_lb p3)), .val (.ref b_1), .val (.ref b_2), .val (.ref b_3)] [(.ref b_3)])) _
    refine X3.arraylength hx (by exact Ar4.1) (State.isArrayOf_alike hZ.alike Ar4.2.1) (g := (mkF m 48 #[.val (.int p1), .val (.int p2), .val (.int p3), .val (.int (own_la p3)), .val (.int (own_lb p3)), .val (.ref b_1), .val (.ref b_2), .val (.ref b_3)] [(.ref b_3)])) rfl rfl (hb hby at_48) _ ?_
    rw [len_of S4 M4]
    show Steps p.tables e below (T3.setTop (mkF m 49 #[.val (.int p1), .val (.int p2), .val (.int p3), .val (.int (own_la p3)), .val (.int (own_lb p3)), .val (.ref b_1), .val (.ref b_2), .val (.ref b_3)] [(.int ((own_la p3) + (own_lb p3)))])) _
    refine XS.iloadN X3.here hx rfl (hb hby at_49) rfl ?_
    show Steps p.tables e below (T3.setTop (mkF m 50 #[.val (.int p1), .val (.int p2), .val (.int p3), .val (.int (own_la p3)), .val (.int (own_lb p3)), .val (.ref b_1), .val (.ref b_2), .val (.ref b_3)] [(.int (own_la p3)), (.int ((own_la p3) + (own_lb p3)))])) _
    refine XS.iload X3.here hx rfl (hb hby at_50) rfl ?_
    show Steps p.tables e below (T3.setTop (mkF m 52 #[.val (.int p1), .val (.int p2), .val (.int p3), .val (.int (own_la p3)), .val (.int (own_lb p3)), .val (.ref b_1), .val (.ref b_2), .val (.ref b_3)] [(.int (own_lb p3)), (.int (own_la p3)), (.int ((own_la p3) + (own_lb p3)))])) _
    refine XS.iadd X3.here hx rfl (hb hby at_52) rfl ?_
    show Steps p.tables e below (T3.setTop (mkF m 53 #[.val (.int p1), .val (.int p2), .val (.int p3), .val (.int (own_la p3)), .val (.int (own_lb p3)), .val (.ref b_1), .val (.ref b_2), .val (.ref b_3)] [(.int ((own_la p3) + (own_lb p3))), (.int ((own_la p3) + (own_lb p3)))])) _
    refine XS.icmpYes X3.here hx rfl (pc0 := 53) (pc' := 58) rfl (hb hby at_53) rfl (teq (rfl : ((own_la p3) + (own_lb p3)) = ((own_la p3) + (own_lb p3)))).1 (by decide) (by decide) ?_
    show Steps p.tables e below (T3.setTop (mkF m 58 #[.val (.int p1), .val (.int p2), .val (.int p3), .val (.int (own_la p3)), .val (.int (own_lb p3)), .val (.ref b_1), .val (.ref b_2), .val (.ref b_3)] [])) _
    refine XS.aload X3.here hx rfl (hb hby at_58) rfl rfl ?_
    show Steps p.tables e below (T3.setTop (mkF m 60 #[.val (.int p1), .val (.int p2), .val (.int p3), .val (.int (own_la p3)), .val (.int (own_lb p3)), .val (.ref b_1), .val (.ref b_2), .val (.ref b_3)] [(.ref b_3)])) _
    refine XS.iconst X3.here hx rfl (hb hby at_60) ?_
    show Steps p.tables e below (T3.setTop (mkF m 61 #[.val (.int p1), .val (.int p2), .val (.int p3), .val (.int (own_la p3)), .val (.int (own_lb p3)), .val (.ref b_1), .val (.ref b_2), .val (.ref b_3)] [(.int (0 : Int32)), (.ref b_3)])) _
    refine XS.iloadN X3.here hx rfl (hb hby at_61) rfl ?_
    show Steps p.tables e below (T3.setTop (mkF m 62 #[.val (.int p1), .val (.int p2), .val (.int p3), .val (.int (own_la p3)), .val (.int (own_lb p3)), .val (.ref b_1), .val (.ref b_2), .val (.ref b_3)] [(.int (own_la p3)), (.int (0 : Int32)), (.ref b_3)])) _
    refine XS.iload X3.here hx rfl (hb hby at_62) rfl ?_
    show Steps p.tables e below (T3.setTop (mkF m 64 #[.val (.int p1), .val (.int p2), .val (.int p3), .val (.int (own_la p3)), .val (.int (own_lb p3)), .val (.ref b_1), .val (.ref b_2), .val (.ref b_3)] [(.int (own_lb p3)), (.int (own_la p3)), (.int (0 : Int32)), (.ref b_3)])) _
    refine XS.iloadN X3.here hx rfl (hb hby at_64) rfl ?_
    show Steps p.tables e below (T3.setTop (mkF m 65 #[.val (.int p1), .val (.int p2), .val (.int p3), .val (.int (own_la p3)), .val (.int (own_lb p3)), .val (.ref b_1), .val (.ref b_2), .val (.ref b_3)] [(.int p1), (.int (own_lb p3)), (.int (own_la p3)), (.int (0 : Int32)), (.ref b_3)])) _
    refine XS.iloadN X3.here hx rfl (hb hby at_65) rfl ?_
    show Steps p.tables e below (T3.setTop (mkF m 66 #[.val (.int p1), .val (.int p2), .val (.int p3), .val (.int (own_la p3)), .val (.int (own_lb p3)), .val (.ref b_1), .val (.ref b_2), .val (.ref b_3)] [(.int p2), (.int p1), (.int (own_lb p3)), (.int (own_la p3)), (.int (0 : Int32)), (.ref b_3)])) _
    refine st5 _ ?_
    show Steps p.tables e below (T5.setTop (mkF m 69 #[.val (.int p1), .val (.int p2), .val (.int p3), .val (.int (own_la p3)), .val (.int (own_lb p3)), .val (.ref b_1), .val (.ref b_2), .val (.ref b_3)] [(.int (1 : Int32))])) _
    refine XS.ifNo X5.here hx rfl (hb hby at_69) rfl ((if0 _ _).trans (feq (by decide : ¬ ((1 : Int32) = (0 : Int32)))).1) ?_
    show Steps p.tables e below (T5.setTop (mkF m 72 #[.val (.int p1), .val (.int p2), .val (.int p3), .val (.int (own_la p3)), .val (.int (own_lb p3)), .val (.ref b_1), .val (.ref b_2), .val (.ref b_3)] [])) _
    refine XS.aload X5.here hx rfl (hb hby at_72) rfl rfl ?_
    show Steps p.tables e below (T5.setTop (mkF m 74 #[.val (.int p1), .val (.int p2), .val (.int p3), .val (.int (own_la p3)), .val (.int (own_lb p3)), .val (.ref b_1), .val (.ref b_2), .val (.ref b_3)] [(.ref b_3)])) _
    refine XS.iconst X5.here hx rfl (hb hby at_74) ?_
    show Steps p.tables e below (T5.setTop (mkF m 75 #[.val (.int p1), .val (.int p2), .val (.int p3), .val (.int (own_la p3)), .val (.int (own_lb p3)), .val (.ref b_1), .val (.ref b_2), .val (.ref b_3)] [(.int (1 : Int32)), (.ref b_3)])) _
    refine XS.iloadN X5.here hx rfl (hb hby at_75) rfl ?_
    show Steps p.tables e below (T5.setTop (mkF m 76 #[.val (.int p1), .val (.int p2), .val (.int p3), .val (.int (own_la p3)), .val (.int (own_lb p3)), .val (.ref b_1), .val (.ref b_2), .val (.ref b_3)] [(.int (own_la p3)), (.int (1 : Int32)), (.ref b_3)])) _
    refine XS.iload X5.here hx rfl (hb hby at_76) rfl ?_
    show Steps p.tables e below (T5.setTop (mkF m 78 #[.val (.int p1), .val (.int p2), .val (.int p3), .val (.int (own_la p3)), .val (.int (own_lb p3)), .val (.ref b_1), .val (.ref b_2), .val (.ref b_3)] [(.int (own_lb p3)), (.int (own_la p3)), (.int (1 : Int32)), (.ref b_3)])) _
    refine XS.iloadN X5.here hx rfl (hb hby at_78) rfl ?_
    show Steps p.tables e below (T5.setTop (mkF m 79 #[.val (.int p1), .val (.int p2), .val (.int p3), .val (.int (own_la p3)), .val (.int (own_lb p3)), .val (.ref b_1), .val (.ref b_2), .val (.ref b_3)] [(.int p1), (.int (own_lb p3)), (.int (own_la p3)), (.int (1 : Int32)), (.ref b_3)])) _
    refine XS.iloadN X5.here hx rfl (hb hby at_79) rfl ?_
    show Steps p.tables e below (T5.setTop (mkF m 80 #[.val (.int p1), .val (.int p2), .val (.int p3), .val (.int (own_la p3)), .val (.int (own_lb p3)), .val (.ref b_1), .val (.ref b_2), .val (.ref b_3)] [(.int p2), (.int p1), (.int (own_lb p3)), (.int (own_la p3)), (.int (1 : Int32)), (.ref b_3)])) _
    refine st6 _ ?_
    show Steps p.tables e below (T6.setTop (mkF m 83 #[.val (.int p1), .val (.int p2), .val (.int p3), .val (.int (own_la p3)), .val (.int (own_lb p3)), .val (.ref b_1), .val (.ref b_2), .val (.ref b_3)] [(.int (1 : Int32))])) _
    refine XS.ifNo X6.here hx rfl (hb hby at_83) rfl ((if0 _ _).trans (feq (by decide : ¬ ((1 : Int32) = (0 : Int32)))).1) ?_
    show Steps p.tables e below (T6.setTop (mkF m 86 #[.val (.int p1), .val (.int p2), .val (.int p3), .val (.int (own_la p3)), .val (.int (own_lb p3)), .val (.ref b_1), .val (.ref b_2), .val (.ref b_3)] [])) _
    refine XS.aload X6.here hx rfl (hb hby at_86) rfl rfl ?_
    show Steps p.tables e below (T6.setTop (mkF m 88 #[.val (.int p1), .val (.int p2), .val (.int p3), .val (.int (own_la p3)), .val (.int (own_lb p3)), .val (.ref b_1), .val (.ref b_2), .val (.ref b_3)] [(.ref b_3)])) _
    refine XS.iconst X6.here hx rfl (hb hby at_88) ?_
    show Steps p.tables e below (T6.setTop (mkF m 89 #[.val (.int p1), .val (.int p2), .val (.int p3), .val (.int (own_la p3)), .val (.int (own_lb p3)), .val (.ref b_1), .val (.ref b_2), .val (.ref b_3)] [(.int (2 : Int32)), (.ref b_3)])) _
    refine XS.iloadN X6.here hx rfl (hb hby at_89) rfl ?_
    show Steps p.tables e below (T6.setTop (mkF m 90 #[.val (.int p1), .val (.int p2), .val (.int p3), .val (.int (own_la p3)), .val (.int (own_lb p3)), .val (.ref b_1), .val (.ref b_2), .val (.ref b_3)] [(.int (own_la p3)), (.int (2 : Int32)), (.ref b_3)])) _
    refine XS.iload X6.here hx rfl (hb hby at_90) rfl ?_
    show Steps p.tables e below (T6.setTop (mkF m 92 #[.val (.int p1), .val (.int p2), .val (.int p3), .val (.int (own_la p3)), .val (.int (own_lb p3)), .val (.ref b_1), .val (.ref b_2), .val (.ref b_3)] [(.int (own_lb p3)), (.int (own_la p3)), (.int (2 : Int32)), (.ref b_3)])) _
    refine XS.iloadN X6.here hx rfl (hb hby at_92) rfl ?_
    show Steps p.tables e below (T6.setTop (mkF m 93 #[.val (.int p1), .val (.int p2), .val (.int p3), .val (.int (own_la p3)), .val (.int (own_lb p3)), .val (.ref b_1), .val (.ref b_2), .val (.ref b_3)] [(.int p1), (.int (own_lb p3)), (.int (own_la p3)), (.int (2 : Int32)), (.ref b_3)])) _
    refine XS.iloadN X6.here hx rfl (hb hby at_93) rfl ?_
    show Steps p.tables e below (T6.setTop (mkF m 94 #[.val (.int p1), .val (.int p2), .val (.int p3), .val (.int (own_la p3)), .val (.int (own_lb p3)), .val (.ref b_1), .val (.ref b_2), .val (.ref b_3)] [(.int p2), (.int p1), (.int (own_lb p3)), (.int (own_la p3)), (.int (2 : Int32)), (.ref b_3)])) _
    refine st7 _ ?_
    show Steps p.tables e below (T7.setTop (mkF m 97 #[.val (.int p1), .val (.int p2), .val (.int p3), .val (.int (own_la p3)), .val (.int (own_lb p3)), .val (.ref b_1), .val (.ref b_2), .val (.ref b_3)] [(.int (1 : Int32))])) _
    refine XS.ifNo X7.here hx rfl (hb hby at_97) rfl ((if0 _ _).trans (feq (by decide : ¬ ((1 : Int32) = (0 : Int32)))).1) ?_
    show Steps p.tables e below (T7.setTop (mkF m 100 #[.val (.int p1), .val (.int p2), .val (.int p3), .val (.int (own_la p3)), .val (.int (own_lb p3)), .val (.ref b_1), .val (.ref b_2), .val (.ref b_3)] [])) _
    refine XS.aload X7.here hx rfl (hb hby at_100) rfl rfl ?_
    show Steps p.tables e below (T7.setTop (mkF m 102 #[.val (.int p1), .val (.int p2), .val (.int p3), .val (.int (own_la p3)), .val (.int (own_lb p3)), .val (.ref b_1), .val (.ref b_2), .val (.ref b_3)] [(.ref b_3)])) _
    refine XS.iconst X7.here hx rfl (hb hby at_102) ?_
    show Steps p.tables e below (T7.setTop (mkF m 103 #[.val (.int p1), .val (.int p2), .val (.int p3), .val (.int (own_la p3)), .val (.int (own_lb p3)), .val (.ref b_1), .val (.ref b_2), .val (.ref b_3)] [(.int (3 : Int32)), (.ref b_3)])) _
    refine XS.iloadN X7.here hx rfl (hb hby at_103) rfl ?_
    show Steps p.tables e below (T7.setTop (mkF m 104 #[.val (.int p1), .val (.int p2), .val (.int p3), .val (.int (own_la p3)), .val (.int (own_lb p3)), .val (.ref b_1), .val (.ref b_2), .val (.ref b_3)] [(.int (own_la p3)), (.int (3 : Int32)), (.ref b_3)])) _
    refine XS.iload X7.here hx rfl (hb hby at_104) rfl ?_
    show Steps p.tables e below (T7.setTop (mkF m 106 #[.val (.int p1), .val (.int p2), .val (.int p3), .val (.int (own_la p3)), .val (.int (own_lb p3)), .val (.ref b_1), .val (.ref b_2), .val (.ref b_3)] [(.int (own_lb p3)), (.int (own_la p3)), (.int (3 : Int32)), (.ref b_3)])) _
    refine XS.iloadN X7.here hx rfl (hb hby at_106) rfl ?_
    show Steps p.tables e below (T7.setTop (mkF m 107 #[.val (.int p1), .val (.int p2), .val (.int p3), .val (.int (own_la p3)), .val (.int (own_lb p3)), .val (.ref b_1), .val (.ref b_2), .val (.ref b_3)] [(.int p1), (.int (own_lb p3)), (.int (own_la p3)), (.int (3 : Int32)), (.ref b_3)])) _
    refine XS.iloadN X7.here hx rfl (hb hby at_107) rfl ?_
    show Steps p.tables e below (T7.setTop (mkF m 108 #[.val (.int p1), .val (.int p2), .val (.int p3), .val (.int (own_la p3)), .val (.int (own_lb p3)), .val (.ref b_1), .val (.ref b_2), .val (.ref b_3)] [(.int p2), (.int p1), (.int (own_lb p3)), (.int (own_la p3)), (.int (3 : Int32)), (.ref b_3)])) _
    refine st8 _ ?_
    show Steps p.tables e below (T8.setTop (mkF m 111 #[.val (.int p1), .val (.int p2), .val (.int p3), .val (.int (own_la p3)), .val (.int (own_lb p3)), .val (.ref b_1), .val (.ref b_2), .val (.ref b_3)] [(.int (1 : Int32))])) _
    refine XS.ifNo X8.here hx rfl (hb hby at_111) rfl ((if0 _ _).trans (feq (by decide : ¬ ((1 : Int32) = (0 : Int32)))).1) ?_
    show Steps p.tables e below (T8.setTop (mkF m 114 #[.val (.int p1), .val (.int p2), .val (.int p3), .val (.int (own_la p3)), .val (.int (own_lb p3)), .val (.ref b_1), .val (.ref b_2), .val (.ref b_3)] [])) _
    refine XS.aload X8.here hx rfl (hb hby at_114) rfl rfl ?_
    show Steps p.tables e below (T8.setTop (mkF m 116 #[.val (.int p1), .val (.int p2), .val (.int p3), .val (.int (own_la p3)), .val (.int (own_lb p3)), .val (.ref b_1), .val (.ref b_2), .val (.ref b_3)] [(.ref b_3)])) _
    refine XS.iconst X8.here hx rfl (hb hby at_116) ?_
    show Steps p.tables e below (T8.setTop (mkF m 117 #[.val (.int p1), .val (.int p2), .val (.int p3), .val (.int (own_la p3)), .val (.int (own_lb p3)), .val (.ref b_1), .val (.ref b_2), .val (.ref b_3)] [(.int (4 : Int32)), (.ref b_3)])) _
    refine XS.iloadN X8.here hx rfl (hb hby at_117) rfl ?_
    show Steps p.tables e below (T8.setTop (mkF m 118 #[.val (.int p1), .val (.int p2), .val (.int p3), .val (.int (own_la p3)), .val (.int (own_lb p3)), .val (.ref b_1), .val (.ref b_2), .val (.ref b_3)] [(.int (own_la p3)), (.int (4 : Int32)), (.ref b_3)])) _
    refine XS.iload X8.here hx rfl (hb hby at_118) rfl ?_
    show Steps p.tables e below (T8.setTop (mkF m 120 #[.val (.int p1), .val (.int p2), .val (.int p3), .val (.int (own_la p3)), .val (.int (own_lb p3)), .val (.ref b_1), .val (.ref b_2), .val (.ref b_3)] [(.int (own_lb p3)), (.int (own_la p3)), (.int (4 : Int32)), (.ref b_3)])) _
    refine XS.iloadN X8.here hx rfl (hb hby at_120) rfl ?_
    show Steps p.tables e below (T8.setTop (mkF m 121 #[.val (.int p1), .val (.int p2), .val (.int p3), .val (.int (own_la p3)), .val (.int (own_lb p3)), .val (.ref b_1), .val (.ref b_2), .val (.ref b_3)] [(.int p1), (.int (own_lb p3)), (.int (own_la p3)), (.int (4 : Int32)), (.ref b_3)])) _
    refine XS.iloadN X8.here hx rfl (hb hby at_121) rfl ?_
    show Steps p.tables e below (T8.setTop (mkF m 122 #[.val (.int p1), .val (.int p2), .val (.int p3), .val (.int (own_la p3)), .val (.int (own_lb p3)), .val (.ref b_1), .val (.ref b_2), .val (.ref b_3)] [(.int p2), (.int p1), (.int (own_lb p3)), (.int (own_la p3)), (.int (4 : Int32)), (.ref b_3)])) _
    refine st9 _ ?_
    show Steps p.tables e below (T9.setTop (mkF m 125 #[.val (.int p1), .val (.int p2), .val (.int p3), .val (.int (own_la p3)), .val (.int (own_lb p3)), .val (.ref b_1), .val (.ref b_2), .val (.ref b_3)] [(.int (1 : Int32))])) _
    refine XS.ifNo X9.here hx rfl (hb hby at_125) rfl ((if0 _ _).trans (feq (by decide : ¬ ((1 : Int32) = (0 : Int32)))).1) ?_
    show Steps p.tables e below (T9.setTop (mkF m 128 #[.val (.int p1), .val (.int p2), .val (.int p3), .val (.int (own_la p3)), .val (.int (own_lb p3)), .val (.ref b_1), .val (.ref b_2), .val (.ref b_3)] [])) _
    refine XS.aload X9.here hx rfl (hb hby at_128) rfl rfl ?_
    show Steps p.tables e below (T9.setTop (mkF m 130 #[.val (.int p1), .val (.int p2), .val (.int p3), .val (.int (own_la p3)), .val (.int (own_lb p3)), .val (.ref b_1), .val (.ref b_2), .val (.ref b_3)] [(.ref b_3)])) _
    refine XS.iconst X9.here hx rfl (hb hby at_130) ?_
    show Steps p.tables e below (T9.setTop (mkF m 131 #[.val (.int p1), .val (.int p2), .val (.int p3), .val (.int (own_la p3)), .val (.int (own_lb p3)), .val (.ref b_1), .val (.ref b_2), .val (.ref b_3)] [(.int (5 : Int32)), (.ref b_3)])) _
    refine XS.iloadN X9.here hx rfl (hb hby at_131) rfl ?_
    show Steps p.tables e below (T9.setTop (mkF m 132 #[.val (.int p1), .val (.int p2), .val (.int p3), .val (.int (own_la p3)), .val (.int (own_lb p3)), .val (.ref b_1), .val (.ref b_2), .val (.ref b_3)] [(.int (own_la p3)), (.int (5 : Int32)), (.ref b_3)])) _
    refine XS.iload X9.here hx rfl (hb hby at_132) rfl ?_
    show Steps p.tables e below (T9.setTop (mkF m 134 #[.val (.int p1), .val (.int p2), .val (.int p3), .val (.int (own_la p3)), .val (.int (own_lb p3)), .val (.ref b_1), .val (.ref b_2), .val (.ref b_3)] [(.int (own_lb p3)), (.int (own_la p3)), (.int (5 : Int32)), (.ref b_3)])) _
    refine XS.iloadN X9.here hx rfl (hb hby at_134) rfl ?_
    show Steps p.tables e below (T9.setTop (mkF m 135 #[.val (.int p1), .val (.int p2), .val (.int p3), .val (.int (own_la p3)), .val (.int (own_lb p3)), .val (.ref b_1), .val (.ref b_2), .val (.ref b_3)] [(.int p1), (.int (own_lb p3)), (.int (own_la p3)), (.int (5 : Int32)), (.ref b_3)])) _
    refine XS.iloadN X9.here hx rfl (hb hby at_135) rfl ?_
    show Steps p.tables e below (T9.setTop (mkF m 136 #[.val (.int p1), .val (.int p2), .val (.int p3), .val (.int (own_la p3)), .val (.int (own_lb p3)), .val (.ref b_1), .val (.ref b_2), .val (.ref b_3)] [(.int p2), (.int p1), (.int (own_lb p3)), (.int (own_la p3)), (.int (5 : Int32)), (.ref b_3)])) _
    refine st10 _ ?_
    show Steps p.tables e below (T10.setTop (mkF m 139 #[.val (.int p1), .val (.int p2), .val (.int p3), .val (.int (own_la p3)), .val (.int (own_lb p3)), .val (.ref b_1), .val (.ref b_2), .val (.ref b_3)] [(.int (1 : Int32))])) _
    refine XS.ifNo X10.here hx rfl (hb hby at_139) rfl ((if0 _ _).trans (feq (by decide : ¬ ((1 : Int32) = (0 : Int32)))).1) ?_
    show Steps p.tables e below (T10.setTop (mkF m 142 #[.val (.int p1), .val (.int p2), .val (.int p3), .val (.int (own_la p3)), .val (.int (own_lb p3)), .val (.ref b_1), .val (.ref b_2), .val (.ref b_3)] [])) _
    refine XS.aload X10.here hx rfl (hb hby at_142) rfl rfl ?_
    show Steps p.tables e below (T10.setTop (mkF m 144 #[.val (.int p1), .val (.int p2), .val (.int p3), .val (.int (own_la p3)), .val (.int (own_lb p3)), .val (.ref b_1), .val (.ref b_2), .val (.ref b_3)] [(.ref b_3)])) _
    refine XS.bipush X10.here hx rfl (hb hby at_144) ?_
    show Steps p.tables e below (T10.setTop (mkF m 146 #[.val (.int p1), .val (.int p2), .val (.int p3), .val (.int (own_la p3)), .val (.int (own_lb p3)), .val (.ref b_1), .val (.ref b_2), .val (.ref b_3)] [(.int (6 : Int32)), (.ref b_3)])) _
    refine XS.iloadN X10.here hx rfl (hb hby at_146) rfl ?_
    show Steps p.tables e below (T10.setTop (mkF m 147 #[.val (.int p1), .val (.int p2), .val (.int p3), .val (.int (own_la p3)), .val (.int (own_lb p3)), .val (.ref b_1), .val (.ref b_2), .val (.ref b_3)] [(.int (own_la p3)), (.int (6 : Int32)), (.ref b_3)])) _
    refine XS.iload X10.here hx rfl (hb hby at_147) rfl ?_
    show Steps p.tables e below (T10.setTop (mkF m 149 #[.val (.int p1), .val (.int p2), .val (.int p3), .val (.int (own_la p3)), .val (.int (own_lb p3)), .val (.ref b_1), .val (.ref b_2), .val (.ref b_3)] [(.int (own_lb p3)), (.int (own_la p3)), (.int (6 : Int32)), (.ref b_3)])) _
    refine XS.iloadN X10.here hx rfl (hb hby at_149) rfl ?_
    show Steps p.tables e below (T10.setTop (mkF m 150 #[.val (.int p1), .val (.int p2), .val (.int p3), .val (.int (own_la p3)), .val (.int (own_lb p3)), .val (.ref b_1), .val (.ref b_2), .val (.ref b_3)] [(.int p1), (.int (own_lb p3)), (.int (own_la p3)), (.int (6 : Int32)), (.ref b_3)])) _
    refine XS.iloadN X10.here hx rfl (hb hby at_150) rfl ?_
    show Steps p.tables e below (T10.setTop (mkF m 151 #[.val (.int p1), .val (.int p2), .val (.int p3), .val (.int (own_la p3)), .val (.int (own_lb p3)), .val (.ref b_1), .val (.ref b_2), .val (.ref b_3)] [(.int p2), (.int p1), (.int (own_lb p3)), (.int (own_la p3)), (.int (6 : Int32)), (.ref b_3)])) _
    refine st11 _ ?_
    show Steps p.tables e below (T11.setTop (mkF m 154 #[.val (.int p1), .val (.int p2), .val (.int p3), .val (.int (own_la p3)), .val (.int (own_lb p3)), .val (.ref b_1), .val (.ref b_2), .val (.ref b_3)] [(.int (1 : Int32))])) _
    refine XS.ifNo X11.here hx rfl (hb hby at_154) rfl ((if0 _ _).trans (feq (by decide : ¬ ((1 : Int32) = (0 : Int32)))).1) ?_
    show Steps p.tables e below (T11.setTop (mkF m 157 #[.val (.int p1), .val (.int p2), .val (.int p3), .val (.int (own_la p3)), .val (.int (own_lb p3)), .val (.ref b_1), .val (.ref b_2), .val (.ref b_3)] [])) _
    refine XS.aload X11.here hx rfl (hb hby at_157) rfl rfl ?_
    show Steps p.tables e below (T11.setTop (mkF m 159 #[.val (.int p1), .val (.int p2), .val (.int p3), .val (.int (own_la p3)), .val (.int (own_lb p3)), .val (.ref b_1), .val (.ref b_2), .val (.ref b_3)] [(.ref b_3)])) _
    refine XS.bipush X11.here hx rfl (hb hby at_159) ?_
    show Steps p.tables e below (T11.setTop (mkF m 161 #[.val (.int p1), .val (.int p2), .val (.int p3), .val (.int (own_la p3)), .val (.int (own_lb p3)), .val (.ref b_1), .val (.ref b_2), .val (.ref b_3)] [(.int (7 : Int32)), (.ref b_3)])) _
    refine XS.iloadN X11.here hx rfl (hb hby at_161) rfl ?_
    show Steps p.tables e below (T11.setTop (mkF m 162 #[.val (.int p1), .val (.int p2), .val (.int p3), .val (.int (own_la p3)), .val (.int (own_lb p3)), .val (.ref b_1), .val (.ref b_2), .val (.ref b_3)] [(.int (own_la p3)), (.int (7 : Int32)), (.ref b_3)])) _
    refine XS.iload X11.here hx rfl (hb hby at_162) rfl ?_
    show Steps p.tables e below (T11.setTop (mkF m 164 #[.val (.int p1), .val (.int p2), .val (.int p3), .val (.int (own_la p3)), .val (.int (own_lb p3)), .val (.ref b_1), .val (.ref b_2), .val (.ref b_3)] [(.int (own_lb p3)), (.int (own_la p3)), (.int (7 : Int32)), (.ref b_3)])) _
    refine XS.iloadN X11.here hx rfl (hb hby at_164) rfl ?_
    show Steps p.tables e below (T11.setTop (mkF m 165 #[.val (.int p1), .val (.int p2), .val (.int p3), .val (.int (own_la p3)), .val (.int (own_lb p3)), .val (.ref b_1), .val (.ref b_2), .val (.ref b_3)] [(.int p1), (.int (own_lb p3)), (.int (own_la p3)), (.int (7 : Int32)), (.ref b_3)])) _
    refine XS.iloadN X11.here hx rfl (hb hby at_165) rfl ?_
    show Steps p.tables e below (T11.setTop (mkF m 166 #[.val (.int p1), .val (.int p2), .val (.int p3), .val (.int (own_la p3)), .val (.int (own_lb p3)), .val (.ref b_1), .val (.ref b_2), .val (.ref b_3)] [(.int p2), (.int p1), (.int (own_lb p3)), (.int (own_la p3)), (.int (7 : Int32)), (.ref b_3)])) _
    refine st12 _ ?_
    show Steps p.tables e below (T12.setTop (mkF m 169 #[.val (.int p1), .val (.int p2), .val (.int p3), .val (.int (own_la p3)), .val (.int (own_lb p3)), .val (.ref b_1), .val (.ref b_2), .val (.ref b_3)] [(.int (1 : Int32))])) _
    refine XS.ifNo X12.here hx rfl (hb hby at_169) rfl ((if0 _ _).trans (feq (by decide : ¬ ((1 : Int32) = (0 : Int32)))).1) ?_
    show Steps p.tables e below (T12.setTop (mkF m 172 #[.val (.int p1), .val (.int p2), .val (.int p3), .val (.int (own_la p3)), .val (.int (own_lb p3)), .val (.ref b_1), .val (.ref b_2), .val (.ref b_3)] [])) _
    refine XS.aload X12.here hx rfl (hb hby at_172) rfl rfl ?_
    show Steps p.tables e below (T12.setTop (mkF m 174 #[.val (.int p1), .val (.int p2), .val (.int p3), .val (.int (own_la p3)), .val (.int (own_lb p3)), .val (.ref b_1), .val (.ref b_2), .val (.ref b_3)] [(.ref b_1)])) _
    refine XS.iloadN X12.here hx rfl (hb hby at_174) rfl ?_
    show Steps p.tables e below (T12.setTop (mkF m 175 #[.val (.int p1), .val (.int p2), .val (.int p3), .val (.int (own_la p3)), .val (.int (own_lb p3)), .val (.ref b_1), .val (.ref b_2), .val (.ref b_3)] [(.int p1), (.ref b_1)])) _
    refine XS.iloadN X12.here hx rfl (hb hby at_175) rfl ?_
    show Steps p.tables e below (T12.setTop (mkF m 176 #[.val (.int p1), .val (.int p2), .val (.int p3), .val (.int (own_la p3)), .val (.int (own_lb p3)), .val (.ref b_1), .val (.ref b_2), .val (.ref b_3)] [(.int (own_la p3)), (.int p1), (.ref b_1)])) _
    refine st13 _ ?_
    show Steps p.tables e below (T13.setTop (mkF m 179 #[.val (.int p1), .val (.int p2), .val (.int p3), .val (.int (own_la p3)), .val (.int (own_lb p3)), .val (.ref b_1), .val (.ref b_2), .val (.ref b_3)] [(.int (1 : Int32))])) _
    refine XS.ifNo X13.here hx rfl (hb hby at_179) rfl ((if0 _ _).trans (feq (by decide : ¬ ((1 : Int32) = (0 : Int32)))).1) ?_
    show Steps p.tables e below (T13.setTop (mkF m 182 #[.val (.int p1), .val (.int p2), .val (.int p3), .val (.int (own_la p3)), .val (.int (own_lb p3)), .val (.ref b_1), .val (.ref b_2), .val (.ref b_3)] [])) _
    refine XS.aload X13.here hx rfl (hb hby at_182) rfl rfl ?_
    show Steps p.tables e below (T13.setTop (mkF m 184 #[.val (.int p1), .val (.int p2), .val (.int p3), .val (.int (own_la p3)), .val (.int (own_lb p3)), .val (.ref b_1), .val (.ref b_2), .val (.ref b_3)] [(.ref b_2)])) _
    refine XS.iloadN X13.here hx rfl (hb hby at_184) rfl ?_
    show Steps p.tables e below (T13.setTop (mkF m 185 #[.val (.int p1), .val (.int p2), .val (.int p3), .val (.int (own_la p3)), .val (.int (own_lb p3)), .val (.ref b_1), .val (.ref b_2), .val (.ref b_3)] [(.int p2), (.ref b_2)])) _
    refine XS.iload X13.here hx rfl (hb hby at_185) rfl ?_
    show Steps p.tables e below (T13.setTop (mkF m 187 #[.val (.int p1), .val (.int p2), .val (.int p3), .val (.int (own_la p3)), .val (.int (own_lb p3)), .val (.ref b_1), .val (.ref b_2), .val (.ref b_3)] [(.int (own_lb p3)), (.int p2), (.ref b_2)])) _
    refine st14 _ ?_
    show Steps p.tables e below (T14.setTop (mkF m 190 #[.val (.int p1), .val (.int p2), .val (.int p3), .val (.int (own_la p3)), .val (.int (own_lb p3)), .val (.ref b_1), .val (.ref b_2), .val (.ref b_3)] [(.int (1 : Int32))])) _
    refine XS.ifNo X14.here hx rfl (hb hby at_190) rfl ((if0 _ _).trans (feq (by decide : ¬ ((1 : Int32) = (0 : Int32)))).1) ?_
    show Steps p.tables e below (T14.setTop (mkF m 193 #[.val (.int p1), .val (.int p2), .val (.int p3), .val (.int (own_la p3)), .val (.int (own_lb p3)), .val (.ref b_1), .val (.ref b_2), .val (.ref b_3)] [])) _
    refine XS.iconst X14.here hx rfl (hb hby at_193) ?_
    show Steps p.tables e below (T14.setTop (mkF m 194 #[.val (.int p1), .val (.int p2), .val (.int p3), .val (.int (own_la p3)), .val (.int (own_lb p3)), .val (.ref b_1), .val (.ref b_2), .val (.ref b_3)] [(.int (1 : Int32))])) _
    refine XS.goto X14.here hx rfl (pc0 := 194) (pc' := 198) rfl (hb hby at_194) (by decide) (by decide) ?_
    show Steps p.tables e below (T14.setTop (mkF m 198 #[.val (.int p1), .val (.int p2), .val (.int p3), .val (.int (own_la p3)), .val (.int (own_lb p3)), .val (.ref b_1), .val (.ref b_2), .val (.ref b_3)] [(.int (1 : Int32))])) _
    exact retN X14 hx (t := .boolean) Bd.returns (by simp) (hb hby at_198) hr
  · show Q_rm0 Z p1 p2 p3 h0 n0 _ T14.heap _
    rw [e14]
    exact ⟨rfl, N14, Q3⟩
set_option maxRecDepth 65536 in
set_option maxHeartbeats 40000000 in
theorem comes_1 {Post : Tables → Env → Array Value → State → Outcome → State → Prop} (hpost : ∀ tb e args s v u, (limb_1_1.after args s (.returned v) u = true ∧ limb_1_2.after args s (.returned v) u = true ∧ True) → FrameEnd s (.returned v) u (Jvm.fieldLocs frame_1_writes args s ++ Jvm.arrayLocs frame_1_arrays args s ++ Jvm.staticLocs frame_1_statics s) 16 128 → Post tb e args s (.returned v) u) :
    ArmFor flags0 classFile x code maxLocals ret World_1 tables_1 room_1 Calls_1 rest_1 Pre_1 Post := by
  intro l hfl _ _ p e ha hc hk s m args below hf hA hF happ hP
  obtain ⟨hcalls, hrest, hpre⟩ := hP
  obtain ⟨-, -, -, hnamed, -, -, -, hat⟩ := (Spec.applies_iff hf).mp happ
  obtain ⟨hg, hn⟩ := and_e (Cond.before_iff.mp (show (Jvm.Cond.and given_1 narrow_1).before args s = true from hpre))
  obtain ⟨g0, gr0⟩ := and_e hg
  obtain ⟨g1, gr1⟩ := and_e gr0
  obtain ⟨g2, gr2⟩ := and_e gr1
  obtain ⟨w0, w1, w2, rfl⟩ : ∃ w0 w1 w2 : Value, args = #[w0, w1, w2] := by
    have hs : args.size = 3 := by simpa [Cond.value, given_1] using g0
    obtain ⟨L⟩ := args
    match L, hs with
    | [w0, w1, w2], _ => exact ⟨w0, w1, w2, rfl⟩
  have hw := fun d (hd : d ∈ tables_1) => atoms_spec (ws := Jvm.Cond.code x code maxLocals ret :: tables_1) hat d (List.mem_cons_of_mem _ hd)
  have hfit : Fit s := fun {y c} hc i hi => by
    obtain ⟨ha, rfl⟩ := Array.getElem?_eq_some_iff.mp hc
    have q := List.all_eq_true.mp ((Array.all_eq_true_iff_forall_mem.mp hF) _ (Array.getElem_mem ha)) i (List.mem_range.mpr hi)
    simpa [Array.getElem?_eq_getElem hi] using q
  obtain ⟨i0, ei0⟩ := is_v g1
  obtain rfl : w0 = (.int i0) := Option.some.inj ei0
  obtain ⟨i1, ei1⟩ := is_v g2
  obtain rfl : w1 = (.int i1) := Option.some.inj ei1
  obtain ⟨i2, ei2⟩ := is_v gr2
  obtain rfl : w2 = (.int i2) := Option.some.inj ei2
  obtain ⟨n, o, h1, h2, h3, _, L, rfl, ⟨rfl, N, -⟩, hq⟩ := rm0 l s _ hw tables_1 i0 i1 i2  s.heap s.heap.size (Nat.le_refl _)  p e ha hc hk s m _ below hf ((Spec.applies_iff_loose hf).mp happ).1 ⟨rfl, State.Warmed39.refl s, rfl⟩ trivial
  refine ⟨n, _, h1, h2, h3, hpost _ _ _ _ _ _ ⟨Cond.after_iff.mpr rfl, Cond.after_iff.mpr (eq_i res_at (Term.int_eval (1)) rfl), trivial⟩ ⟨hq.1, hq.2.1, (hq.2.2.sift fun y hy => Or.inr (N y hy)).mono (by decide) (by decide)⟩⟩
theorem main_1_1 : Claimed_1_1 := comes_1 fun _ _ _ _ _ _ h hF => ⟨h.1, hF⟩
theorem main_1_2 : Claimed_1_2 := comes_1 fun _ _ _ _ _ _ h hF => ⟨h.2.1, hF⟩
end Jvm.Pilot.@@N@@
namespace Jvm.Pilot.@@N@@
open Jvm Jvm.ClassFile Sem Op Lib Jvm.Free Jvm.Stand Jvm.Pilot.@@N@@.Jvm.D
/-! MADE BY PROGRAM (witnessworld.py) out of the Statement's table words and the real class files: 12 classes; the members and pool entries that the words name. The judged class is class 1, her method 1. -/
namespace start1
open Jvm.ClassFile
def u (s : String) : CpInfo := .utf8 (stringToUtf16 s)
/-- a pool by its gaps: so many unusable entries, then the entry; so many at the end -/
def gap : Nat → List CpInfo → List CpInfo
  | 0, r => r
  | n + 1, r => .unusable :: gap n r
def poolList (es : List (Nat × CpInfo)) (last : Nat) : List CpInfo := es.foldr (fun e r => gap e.1 (e.2 :: r)) (gap last [])
def pool (es : List (Nat × CpInfo)) (last : Nat) : Array CpInfo := ⟨poolList es last⟩
def fileOf (pool : Array CpInfo) (this : Nat) (attrs : Array Attribute := #[]) (ms : Array MethodInfo := #[]) (fl : Nat := 33) (sup : Nat := 0) (ifs : Array Nat := #[]) (fds : Array FieldInfo := #[]) : ClassFile where
  minorVersion := 0
  majorVersion := 65
  constantPool := pool
  accessFlags := fl
  thisClass := this
  superClass := sup
  interfaces := ifs
  fields := fds
  methods := ms
  attributes := attrs
def plain (name : String) (sup : Option ClassId) : Class where
  name := name
  kind := .ordinary
  loader := none
  accessFlags := 33
  super := sup
  interfaces := #[]
  cf := none
  fields := #[]
  methods := #[]
  instanceTypes := #[]
  staticTypes := #[]
  resolved := #[]
  callSites := []
  init := .initialized
  statics := none
  mirror := none

def pool0 : Array CpInfo := pool [(5, u "<init>"), (0, u "()V"), (1, .class_ 10), (1, u "java/lang/Object"), (85, u "clone"), (0, u "()Ljava/lang/Object;")] 26

def k0m0 : Method := { name := "<init>", desc := "()V", sig := { parameters := [], returnType := none }, accessFlags := 1, code := none }
def k0m1 : Method := { name := "clone", desc := "()Ljava/lang/Object;", sig := { parameters := [], returnType := some (.object "java/lang/Object") }, accessFlags := 260, code := none }
/-- java/lang/Object -/
def k0 : Class := { plain "java/lang/Object" none with
  accessFlags := 33
  interfaces := #[]
  cf := some (fileOf pool0 8 #[] #[{ accessFlags := 1, nameIndex := 5, descriptorIndex := 6, attributes := #[] }, { accessFlags := 260, nameIndex := 96, descriptorIndex := 97, attributes := #[] }] 33 0 #[] #[])
  fields := #[]
  methods := #[k0m0, k0m1]
  instanceTypes := #[]
  staticTypes := #[]
  resolved := Array.replicate 124 none
  statics := none }

def pool1 : Array CpInfo := pool [(2, .class_ 4), (1, u "java/lang/Object"), (0, u "<init>"), (0, u "()V"), (0, .methodref 8 9), (0, .class_ 10), (0, .nameAndType 11 12), (0, u "com/example/insistent_hook/insistenthook/store/KeysConcatPinLaw"), (0, u "make"), (0, u "(II)[B"), (0, .methodref 14 15), (0, .class_ 16), (0, .nameAndType 17 18), (0, u "com/example/insistent_hook/insistenthook/store/Keys"), (0, u "concat"), (0, u "([B[B)[B"), (0, .methodref 8 20), (0, .nameAndType 21 22), (0, u "ok"), (0, u "([BIIIII)Z"), (0, .methodref 8 24), (0, .nameAndType 25 26), (0, u "same"), (0, u "([BII)Z"), (2, u "law"), (0, u "(III)Z")] 5

def k1m0 : Method := { name := "<init>", desc := "()V", sig := { parameters := [], returnType := none }, accessFlags := 2, code := none }
def k1c1 : Code := { maxStack := 6, maxLocals := 8, code := code, exceptionTable := #[], attributes := #[] }
def k1m1 : Method := { name := "law", desc := "(III)Z", sig := { parameters := [.int, .int, .int], returnType := some .boolean }, accessFlags := 9, code := some k1c1 }
def k1c2 : Code := { maxStack := 4, maxLocals := 3, code := method_3_code, exceptionTable := #[], attributes := #[] }
def k1m2 : Method := { name := "make", desc := "(II)[B", sig := { parameters := [.int, .int], returnType := some (.array .byte) }, accessFlags := 10, code := some k1c2 }
def k1c3 : Code := { maxStack := 4, maxLocals := 7, code := method_4_code, exceptionTable := #[], attributes := #[] }
def k1m3 : Method := { name := "ok", desc := "([BIIIII)Z", sig := { parameters := [(.array .byte), .int, .int, .int, .int, .int], returnType := some .boolean }, accessFlags := 10, code := some k1c3 }
def k1c4 : Code := { maxStack := 3, maxLocals := 3, code := method_5_code, exceptionTable := #[], attributes := #[] }
def k1m4 : Method := { name := "same", desc := "([BII)Z", sig := { parameters := [(.array .byte), .int, .int], returnType := some .boolean }, accessFlags := 10, code := some k1c4 }
/-- com/example/insistent_hook/insistenthook/store/KeysConcatPinLaw -/
def k1 : Class := { plain "com/example/insistent_hook/insistenthook/store/KeysConcatPinLaw" (some 0) with
  accessFlags := 49
  interfaces := #[]
  cf := some (fileOf pool1 8 #[] #[{ accessFlags := 2, nameIndex := 5, descriptorIndex := 6, attributes := #[] }, { accessFlags := 9, nameIndex := 29, descriptorIndex := 30, attributes := #[] }, { accessFlags := 10, nameIndex := 11, descriptorIndex := 12, attributes := #[] }, { accessFlags := 10, nameIndex := 21, descriptorIndex := 22, attributes := #[] }, { accessFlags := 10, nameIndex := 25, descriptorIndex := 26, attributes := #[] }] 49 2 #[] #[])
  fields := #[]
  methods := #[k1m0, k1m1, k1m2, k1m3, k1m4]
  instanceTypes := #[]
  staticTypes := #[]
  resolved := Array.replicate 36 none
  statics := none }

def pool2 : Array CpInfo := pool [(2, .class_ 4), (1, u "java/lang/Object"), (0, u "<init>"), (0, u "()V"), (1, .class_ 10), (1, u "com/example/insistent_hook/insistenthook/store/Keys"), (32, u "concat"), (0, u "([B[B)[B"), (105, .class_ 152), (1, u "java/util/Arrays"), (2, .methodref 150 156), (0, .nameAndType 157 158), (0, u "copyOf"), (0, u "([BI)[B"), (0, .methodref 160 161), (0, .class_ 162), (0, .nameAndType 163 164), (0, u "java/lang/System"), (0, u "arraycopy"), (0, u "(Ljava/lang/Object;ILjava/lang/Object;II)V")] 32

def k2m0 : Method := { name := "<init>", desc := "()V", sig := { parameters := [], returnType := none }, accessFlags := 2, code := none }
def k2c1 : Code := { maxStack := 5, maxLocals := 3, code := prog_61_method_17_code, exceptionTable := #[], attributes := #[] }
def k2m1 : Method := { name := "concat", desc := "([B[B)[B", sig := { parameters := [(.array .byte), (.array .byte)], returnType := some (.array .byte) }, accessFlags := 8, code := some k2c1 }
/-- com/example/insistent_hook/insistenthook/store/Keys -/
def k2 : Class := { plain "com/example/insistent_hook/insistenthook/store/Keys" (some 0) with
  accessFlags := 32
  interfaces := #[]
  cf := some (fileOf pool2 8 #[] #[{ accessFlags := 2, nameIndex := 5, descriptorIndex := 6, attributes := #[] }, { accessFlags := 8, nameIndex := 43, descriptorIndex := 44, attributes := #[] }] 32 2 #[] #[])
  fields := #[]
  methods := #[k2m0, k2m1]
  instanceTypes := #[]
  staticTypes := #[]
  resolved := Array.replicate 197 none
  statics := none }

def pool3 : Array CpInfo := pool [(2, .class_ 4), (1, u "java/lang/Object"), (0, u "<init>"), (0, u "()V"), (7, .class_ 16), (1, u "java/util/Arrays"), (57, .class_ 76), (1, u "java/util/Arrays$NaturalOrder"), (32, u "()Ljava/lang/Object;"), (3, .class_ 115), (1, u "java/util/Arrays$LegacyMergeSort"), (1, u "Z"), (10, .nameAndType 129 109), (0, u "clone"), (20, .methodref 151 152), (0, .class_ 153), (0, .nameAndType 154 155), (0, u "java/lang/System"), (0, u "arraycopy"), (0, u "(Ljava/lang/Object;ILjava/lang/Object;II)V"), (146, u "copyOf"), (1, .methodref 305 306), (0, .class_ 307), (0, .nameAndType 308 309), (0, u "java/lang/Math"), (0, u "min"), (0, u "(II)I"), (0, .methodref 311 128), (0, .class_ 312), (0, u "[B"), (62, .class_ 376), (0, u "java/util/Arrays$ArrayList"), (68, u "$assertionsDisabled"), (269, u "MIN_ARRAY_SORT_GRAN"), (0, u "I"), (2, u "INSERTIONSORT_THRESHOLD"), (149, u "([BI)[B"), (105, .class_ 976), (0, u "java/util/Arrays$ArrayItr")] 52

def k3m0 : Method := { name := "<init>", desc := "()V", sig := { parameters := [], returnType := none }, accessFlags := 2, code := none }
def k3c1 : Code := { maxStack := 6, maxLocals := 3, code := jdk_65_method_121_code, exceptionTable := #[], attributes := #[] }
def k3m1 : Method := { name := "copyOf", desc := "([BI)[B", sig := { parameters := [(.array .byte), .int], returnType := some (.array .byte) }, accessFlags := 9, code := some k3c1 }
/-- java/util/Arrays -/
def k3 : Class := { plain "java/util/Arrays" (some 0) with
  accessFlags := 49
  interfaces := #[]
  cf := some (fileOf pool3 14 #[.nestMembers #[975, 375, 113, 74]] #[{ accessFlags := 2, nameIndex := 5, descriptorIndex := 6, attributes := #[] }, { accessFlags := 9, nameIndex := 302, descriptorIndex := 869, attributes := #[] }] 49 2 #[] #[{ accessFlags := 26, nameIndex := 715, descriptorIndex := 716, attributes := #[] }, { accessFlags := 26, nameIndex := 719, descriptorIndex := 716, attributes := #[] }, { accessFlags := 4120, nameIndex := 445, descriptorIndex := 117, attributes := #[] }])
  fields := #[{ name := "MIN_ARRAY_SORT_GRAN", type := .int, accessFlags := 26, slot := 0, constantValue := 0 }, { name := "INSERTIONSORT_THRESHOLD", type := .int, accessFlags := 26, slot := 1, constantValue := 0 }, { name := "$assertionsDisabled", type := .boolean, accessFlags := 4120, slot := 2, constantValue := 0 }]
  methods := #[k3m0, k3m1]
  instanceTypes := #[]
  staticTypes := #[.int, .int, .boolean]
  resolved := Array.replicate 1029 none
  statics := none }

def pool4 : Array CpInfo := pool [(1, .class_ 2), (0, u "java/lang/Cloneable"), (0, .class_ 4), (0, u "java/lang/Object")] 2

/-- java/lang/Cloneable -/
def k4 : Class := { plain "java/lang/Cloneable" (some 0) with
  accessFlags := 1537
  interfaces := #[]
  cf := some (fileOf pool4 1 #[] #[] 1537 3 #[] #[])
  fields := #[]
  methods := #[]
  instanceTypes := #[]
  staticTypes := #[]
  resolved := Array.replicate 7 none
  statics := none }

def pool5 : Array CpInfo := pool [(2, .class_ 4), (1, u "java/lang/Object"), (0, u "<init>"), (0, u "()V"), (1, .class_ 10), (1, u "java/lang/System"), (0, u "allowSecurityManager"), (0, u "I"), (16, u "cons"), (0, u "Ljava/io/Console;"), (77, .class_ 110), (1, u "java/lang/System$CallersHolder"), (43, u "initialErrStream"), (0, u "Ljava/io/PrintStream;"), (19, u "security"), (0, u "Ljava/lang/SecurityManager;"), (31, .class_ 209), (0, u "java/lang/System$1"), (7, u "props"), (0, u "Ljava/util/Properties;"), (2, u "lineSeparator"), (0, u "Ljava/lang/String;"), (96, .class_ 321), (1, u "java/lang/System$LoggerFinder"), (5, .class_ 328), (0, u "java/lang/System$Logger"), (67, u "err"), (2, u "out"), (91, u "notSupportedJnuEncoding"), (15, u "in"), (17, u "initialIn"), (0, u "Ljava/io/InputStream;"), (35, u "bootLayer"), (0, u "Ljava/lang/ModuleLayer;"), (99, .class_ 664), (0, u "java/lang/System$2"), (9, u "NEVER"), (2, u "MAYBE"), (49, u "arraycopy"), (0, u "(Ljava/lang/Object;ILjava/lang/Object;II)V"), (72, .class_ 802), (0, u "java/lang/System$Logger$Level")] 31

def k5m0 : Method := { name := "<init>", desc := "()V", sig := { parameters := [], returnType := none }, accessFlags := 2, code := none }
def k5m1 : Method := { name := "arraycopy", desc := "(Ljava/lang/Object;ILjava/lang/Object;II)V", sig := { parameters := [(.object "java/lang/Object"), .int, (.object "java/lang/Object"), .int, .int], returnType := none }, accessFlags := 265, code := none }
/-- java/lang/System -/
def k5 : Class := { plain "java/lang/System" (some 0) with
  accessFlags := 49
  interfaces := #[]
  cf := some (fileOf pool5 8 #[.nestMembers #[319, 327, 801, 108, 663, 208]] #[{ accessFlags := 2, nameIndex := 5, descriptorIndex := 6, attributes := #[] }, { accessFlags := 265, nameIndex := 727, descriptorIndex := 728, attributes := #[] }] 49 2 #[] #[{ accessFlags := 25, nameIndex := 507, descriptorIndex := 526, attributes := #[] }, { accessFlags := 25, nameIndex := 399, descriptorIndex := 155, attributes := #[] }, { accessFlags := 25, nameIndex := 396, descriptorIndex := 155, attributes := #[] }, { accessFlags := 10, nameIndex := 525, descriptorIndex := 526, attributes := #[] }, { accessFlags := 26, nameIndex := 674, descriptorIndex := 12, attributes := #[] }, { accessFlags := 26, nameIndex := 677, descriptorIndex := 12, attributes := #[] }, { accessFlags := 10, nameIndex := 11, descriptorIndex := 12, attributes := #[] }, { accessFlags := 74, nameIndex := 175, descriptorIndex := 176, attributes := #[] }, { accessFlags := 10, nameIndex := 491, descriptorIndex := 222, attributes := #[] }, { accessFlags := 74, nameIndex := 29, descriptorIndex := 30, attributes := #[] }, { accessFlags := 74, nameIndex := 154, descriptorIndex := 155, attributes := #[] }, { accessFlags := 10, nameIndex := 217, descriptorIndex := 218, attributes := #[] }, { accessFlags := 10, nameIndex := 221, descriptorIndex := 222, attributes := #[] }, { accessFlags := 8, nameIndex := 562, descriptorIndex := 563, attributes := #[] }])
  fields := #[{ name := "in", type := (.object "java/io/InputStream"), accessFlags := 25, slot := 0, constantValue := 0 }, { name := "out", type := (.object "java/io/PrintStream"), accessFlags := 25, slot := 1, constantValue := 0 }, { name := "err", type := (.object "java/io/PrintStream"), accessFlags := 25, slot := 2, constantValue := 0 }, { name := "initialIn", type := (.object "java/io/InputStream"), accessFlags := 10, slot := 3, constantValue := 0 }, { name := "NEVER", type := .int, accessFlags := 26, slot := 4, constantValue := 0 }, { name := "MAYBE", type := .int, accessFlags := 26, slot := 5, constantValue := 0 }, { name := "allowSecurityManager", type := .int, accessFlags := 10, slot := 6, constantValue := 0 }, { name := "security", type := (.object "java/lang/SecurityManager"), accessFlags := 74, slot := 7, constantValue := 0 }, { name := "notSupportedJnuEncoding", type := (.object "java/lang/String"), accessFlags := 10, slot := 8, constantValue := 0 }, { name := "cons", type := (.object "java/io/Console"), accessFlags := 74, slot := 9, constantValue := 0 }, { name := "initialErrStream", type := (.object "java/io/PrintStream"), accessFlags := 74, slot := 10, constantValue := 0 }, { name := "props", type := (.object "java/util/Properties"), accessFlags := 10, slot := 11, constantValue := 0 }, { name := "lineSeparator", type := (.object "java/lang/String"), accessFlags := 10, slot := 12, constantValue := 0 }, { name := "bootLayer", type := (.object "java/lang/ModuleLayer"), accessFlags := 8, slot := 13, constantValue := 0 }]
  methods := #[k5m0, k5m1]
  instanceTypes := #[]
  staticTypes := #[(.object "java/io/InputStream"), (.object "java/io/PrintStream"), (.object "java/io/PrintStream"), (.object "java/io/InputStream"), .int, .int, .int, (.object "java/lang/SecurityManager"), (.object "java/lang/String"), (.object "java/io/Console"), (.object "java/io/PrintStream"), (.object "java/util/Properties"), (.object "java/lang/String"), (.object "java/lang/ModuleLayer")]
  resolved := Array.replicate 834 none
  statics := none }

def pool6 : Array CpInfo := pool [(1, .class_ 2), (0, u "java/lang/Math"), (1, .class_ 6), (1, u "java/lang/Object"), (0, u "<init>"), (0, u "()V"), (89, .class_ 100), (1, u "java/lang/Math$RandomNumberGeneratorHolder"), (71, u "negativeZeroFloatBits"), (0, u "J"), (2, u "negativeZeroDoubleBits"), (24, u "min"), (43, u "$assertionsDisabled"), (0, u "Z"), (88, u "(II)I"), (2, u "twoToTheDoubleScaleDown"), (0, u "D"), (4, u "twoToTheDoubleScaleUp"), (9, u "E"), (3, u "PI"), (2, u "TAU"), (2, u "DEGREES_TO_RADIANS"), (0, u "RADIANS_TO_DEGREES")] 94

def k6m0 : Method := { name := "<init>", desc := "()V", sig := { parameters := [], returnType := none }, accessFlags := 2, code := none }
def k6c1 : Code := { maxStack := 2, maxLocals := 2, code := jdk_29_method_69_code, exceptionTable := #[], attributes := #[] }
def k6m1 : Method := { name := "min", desc := "(II)I", sig := { parameters := [.int, .int], returnType := some .int }, accessFlags := 9, code := some k6c1 }
/-- java/lang/Math -/
def k6 : Class := { plain "java/lang/Math" (some 0) with
  accessFlags := 49
  interfaces := #[]
  cf := some (fileOf pool6 1 #[.nestMembers #[98]] #[{ accessFlags := 2, nameIndex := 7, descriptorIndex := 8, attributes := #[] }, { accessFlags := 9, nameIndex := 201, descriptorIndex := 335, attributes := #[] }] 49 4 #[] #[{ accessFlags := 25, nameIndex := 354, descriptorIndex := 339, attributes := #[] }, { accessFlags := 25, nameIndex := 358, descriptorIndex := 339, attributes := #[] }, { accessFlags := 25, nameIndex := 361, descriptorIndex := 339, attributes := #[] }, { accessFlags := 26, nameIndex := 364, descriptorIndex := 339, attributes := #[] }, { accessFlags := 26, nameIndex := 365, descriptorIndex := 339, attributes := #[] }, { accessFlags := 26, nameIndex := 172, descriptorIndex := 173, attributes := #[] }, { accessFlags := 26, nameIndex := 176, descriptorIndex := 173, attributes := #[] }, { accessFlags := 8, nameIndex := 344, descriptorIndex := 339, attributes := #[] }, { accessFlags := 8, nameIndex := 338, descriptorIndex := 339, attributes := #[] }, { accessFlags := 4120, nameIndex := 245, descriptorIndex := 246, attributes := #[] }])
  fields := #[{ name := "E", type := .double, accessFlags := 25, slot := 0, constantValue := 0 }, { name := "PI", type := .double, accessFlags := 25, slot := 1, constantValue := 0 }, { name := "TAU", type := .double, accessFlags := 25, slot := 2, constantValue := 0 }, { name := "DEGREES_TO_RADIANS", type := .double, accessFlags := 26, slot := 3, constantValue := 0 }, { name := "RADIANS_TO_DEGREES", type := .double, accessFlags := 26, slot := 4, constantValue := 0 }, { name := "negativeZeroFloatBits", type := .long, accessFlags := 26, slot := 5, constantValue := 0 }, { name := "negativeZeroDoubleBits", type := .long, accessFlags := 26, slot := 6, constantValue := 0 }, { name := "twoToTheDoubleScaleUp", type := .double, accessFlags := 8, slot := 7, constantValue := 0 }, { name := "twoToTheDoubleScaleDown", type := .double, accessFlags := 8, slot := 8, constantValue := 0 }, { name := "$assertionsDisabled", type := .boolean, accessFlags := 4120, slot := 9, constantValue := 0 }]
  methods := #[k6m0, k6m1]
  instanceTypes := #[]
  staticTypes := #[.double, .double, .double, .double, .double, .long, .long, .double, .double, .boolean]
  resolved := Array.replicate 460 none
  statics := none }

def pool7 : Array CpInfo := pool [(1, u "java/io/Serializable"), (0, .class_ 1), (0, u "java/lang/Object"), (0, .class_ 3)] 3

/-- java/io/Serializable -/
def k7 : Class := { plain "java/io/Serializable" (some 0) with
  accessFlags := 1537
  interfaces := #[]
  cf := some (fileOf pool7 2 #[] #[] 1537 4 #[] #[])
  fields := #[]
  methods := #[]
  instanceTypes := #[]
  staticTypes := #[]
  resolved := Array.replicate 8 none
  statics := none }

/-- the primitive byte -/
def k8 : Class := { plain "byte" none with kind := .primitive 'B', accessFlags := 0x411 }
/-- [B -/
def k9 : Class := { plain "[B" (some 0) with kind := .array 8 .byte, interfaces := #[4, 7], accessFlags := 1041 }

/-- the primitive int -/
def k10 : Class := { plain "int" none with kind := .primitive 'I', accessFlags := 0x411 }
/-- [I -/
def k11 : Class := { plain "[I" (some 0) with kind := .array 10 .int, interfaces := #[4, 7], accessFlags := 1041 }

def heap : Heap := #[]
def classes : Array Class := #[k0, k1, k2, k3, k4, k5, k6, k7, k8, k9, k10, k11]
def interned : List (Array UInt16 × Addr) := []
def slotsUsed : Nat := 0
def theMethod : MethodId := ⟨1, 1⟩
def args0 : Array Value := #[.int 5, .int 7, .int 20]
def aboutOver (below : List Frame) : State where
  vm := { classes := classes, interned := interned.toArray }
  heap := heap
  slotsUsed := slotsUsed
  threads := #[{ frames := .invoking theMethod args0 :: below }]
def below0 : List Frame := [.native { method := ⟨0, 0⟩, args := #[] }]
def about1 : State := aboutOver below0
def p0 : Program := .bare "" "" ""
def e0 : Env := launch0.env 0 0 0
theorem w_frames : about1.frames = Frame.invoking theMethod args0 :: below0 := rfl
set_option maxRecDepth 65536 in
theorem w_args : argsFit about1.vm theMethod args0 = true := by decide +kernel
set_option maxRecDepth 65536 in
theorem w_heap : heapFits about1 = true := by decide +kernel
set_option maxRecDepth 65536 in
theorem w_runnable : about1.curStatus? = some .runnable := by decide +kernel
set_option maxRecDepth 65536 in
theorem w_alone : about1.alone = true := by decide +kernel
set_option maxRecDepth 65536 in
theorem w_named : about1.methodNamed? x = some theMethod := by decide +kernel
set_option maxRecDepth 65536 in
theorem w_hears : about1.hears theMethod below0 = true := by decide +kernel
set_option maxRecDepth 65536 in
theorem w_ripe : about1.ripe theMethod args0 below0 = true := by decide +kernel
theorem w_running : about1.status = .running := rfl
set_option maxRecDepth 65536 in
theorem w_room : about1.hasRoom e0.platform room_1 = true :=
  launch0.hasRoom_least _ room_1 (by decide +kernel) (by decide +kernel) (by decide +kernel) (by decide +kernel) (by decide +kernel) (by decide +kernel)
theorem allAtoms_all (ts : List Jvm.Cond) (a : Array Jvm.Value) (st : Jvm.State) : (allAtoms ts).before a st = ts.all (fun c => c.before a st) := by
  induction ts with
  | nil => rfl
  | cons c t ih =>
    show (Jvm.Cond.and c (allAtoms t)).before a st = _
    rw [Jvm.Cond.before_and, ih, List.all_cons]
def words1 : List Jvm.Cond := Jvm.Cond.code x code maxLocals ret :: tables_1
/-- a 'code' word, met by the world's own term for the bytes: nothing is compared byte by byte -/
theorem code_word {y : MethodName} {bytes : ByteArray} {mx : Nat} {rt : Option FieldType} {a : Array Value} {s : State} {m : MethodId} {meth : Method} {c : Code} (h1 : s.methodNamed? y = some m) (h2 : s.vm.method? m = some meth) (h3 : meth.code = some c) (h4 : c.code = bytes)
    (h5 : (c.maxLocals == mx && c.exceptionTable.isEmpty && decide (c.maxStack ≤ mostOperands) && decide (meth.sig.returnType = rt) && !meth.locks && decide (parseMethodDescriptor y.desc = some meth.sig)) = true) : (Jvm.Cond.code y bytes mx rt).before a s = true := by
  simp only [Bool.and_eq_true, beq_iff_eq, Bool.not_eq_true', decide_eq_true_eq] at h5
  obtain ⟨⟨⟨⟨⟨g1, g2⟩, g3⟩, g4⟩, g5⟩, g6⟩ := h5
  simp [Cond.before, Cond.holds, Cond.value, h1, h2, h3, h4, g1, g2, g3, g4, g5, g6]
def isCode : Jvm.Cond → Bool
  | .code _ _ _ _ => true
  | _ => false
theorem all_split {L : List Jvm.Cond} {P : Jvm.Cond → Bool} (h1 : L.all (fun c => isCode c || P c) = true) (h2 : ∀ c ∈ L.filter isCode, P c = true) : L.all P = true := by
  refine List.all_eq_true.mpr fun c hc => ?_
  have h := List.all_eq_true.mp h1 c hc
  rcases Bool.eq_false_or_eq_true (isCode c) with hi | hi
  · exact h2 c (List.mem_filter.mpr ⟨hc, hi⟩)
  · simpa [hi] using h
set_option maxRecDepth 65536 in
theorem w_c0 : (Jvm.Cond.code x code maxLocals ret).before args0 about1 = true := code_word (m := ⟨1, 1⟩) (meth := k1m1) (c := k1c1) (by decide +kernel) rfl rfl rfl (by decide +kernel)
set_option maxRecDepth 65536 in
theorem w_c1 : (Jvm.Cond.code ({ cls := "com/example/insistent_hook/insistenthook/store/KeysConcatPinLaw", name := "make", desc := "(II)[B" } : Jvm.MethodName) method_3_code (3 : Nat) (Option.some (Jvm.ClassFile.FieldType.array Jvm.ClassFile.FieldType.byte))).before args0 about1 = true := code_word (m := ⟨1, 2⟩) (meth := k1m2) (c := k1c2) (by decide +kernel) rfl rfl rfl (by decide +kernel)
set_option maxRecDepth 65536 in
theorem w_c2 : (Jvm.Cond.code ({ cls := "com/example/insistent_hook/insistenthook/store/Keys", name := "concat", desc := "([B[B)[B" } : Jvm.MethodName) prog_61_method_17_code (3 : Nat) (Option.some (Jvm.ClassFile.FieldType.array Jvm.ClassFile.FieldType.byte))).before args0 about1 = true := code_word (m := ⟨2, 1⟩) (meth := k2m1) (c := k2c1) (by decide +kernel) rfl rfl rfl (by decide +kernel)
set_option maxRecDepth 65536 in
theorem w_c3 : (Jvm.Cond.code ({ cls := "java/util/Arrays", name := "copyOf", desc := "([BI)[B" } : Jvm.MethodName) jdk_65_method_121_code (3 : Nat) (Option.some (Jvm.ClassFile.FieldType.array Jvm.ClassFile.FieldType.byte))).before args0 about1 = true := code_word (m := ⟨3, 1⟩) (meth := k3m1) (c := k3c1) (by decide +kernel) rfl rfl rfl (by decide +kernel)
set_option maxRecDepth 65536 in
theorem w_c4 : (Jvm.Cond.code ({ cls := "com/example/insistent_hook/insistenthook/store/KeysConcatPinLaw", name := "ok", desc := "([BIIIII)Z" } : Jvm.MethodName) method_4_code (7 : Nat) (Option.some Jvm.ClassFile.FieldType.boolean)).before args0 about1 = true := code_word (m := ⟨1, 3⟩) (meth := k1m3) (c := k1c3) (by decide +kernel) rfl rfl rfl (by decide +kernel)
set_option maxRecDepth 65536 in
theorem w_c5 : (Jvm.Cond.code ({ cls := "com/example/insistent_hook/insistenthook/store/KeysConcatPinLaw", name := "same", desc := "([BII)Z" } : Jvm.MethodName) method_5_code (3 : Nat) (Option.some Jvm.ClassFile.FieldType.boolean)).before args0 about1 = true := code_word (m := ⟨1, 4⟩) (meth := k1m4) (c := k1c4) (by decide +kernel) rfl rfl rfl (by decide +kernel)
set_option maxRecDepth 65536 in
theorem w_c6 : (Jvm.Cond.code ({ cls := "java/lang/Math", name := "min", desc := "(II)I" } : Jvm.MethodName) jdk_29_method_69_code (2 : Nat) (Option.some Jvm.ClassFile.FieldType.int)).before args0 about1 = true := code_word (m := ⟨6, 1⟩) (meth := k6m1) (c := k6c1) (by decide +kernel) rfl rfl rfl (by decide +kernel)
def codes1 : List Jvm.Cond := [Jvm.Cond.code x code maxLocals ret, Jvm.Cond.code ({ cls := "com/example/insistent_hook/insistenthook/store/KeysConcatPinLaw", name := "make", desc := "(II)[B" } : Jvm.MethodName) method_3_code (3 : Nat) (Option.some (Jvm.ClassFile.FieldType.array Jvm.ClassFile.FieldType.byte)), Jvm.Cond.code ({ cls := "com/example/insistent_hook/insistenthook/store/Keys", name := "concat", desc := "([B[B)[B" } : Jvm.MethodName) prog_61_method_17_code (3 : Nat) (Option.some (Jvm.ClassFile.FieldType.array Jvm.ClassFile.FieldType.byte)), Jvm.Cond.code ({ cls := "java/util/Arrays", name := "copyOf", desc := "([BI)[B" } : Jvm.MethodName) jdk_65_method_121_code (3 : Nat) (Option.some (Jvm.ClassFile.FieldType.array Jvm.ClassFile.FieldType.byte)), Jvm.Cond.code ({ cls := "com/example/insistent_hook/insistenthook/store/KeysConcatPinLaw", name := "ok", desc := "([BIIIII)Z" } : Jvm.MethodName) method_4_code (7 : Nat) (Option.some Jvm.ClassFile.FieldType.boolean), Jvm.Cond.code ({ cls := "com/example/insistent_hook/insistenthook/store/KeysConcatPinLaw", name := "same", desc := "([BII)Z" } : Jvm.MethodName) method_5_code (3 : Nat) (Option.some Jvm.ClassFile.FieldType.boolean), Jvm.Cond.code ({ cls := "java/lang/Math", name := "min", desc := "(II)I" } : Jvm.MethodName) jdk_29_method_69_code (2 : Nat) (Option.some Jvm.ClassFile.FieldType.int)]
set_option maxRecDepth 65536 in
theorem codes_eq : words1.filter isCode = codes1 := rfl
theorem w_codes : ∀ c ∈ words1.filter isCode, c.before args0 about1 = true := by
  rw [codes_eq]
  intro c hc
  simp only [codes1, List.mem_cons, List.not_mem_nil, or_false] at hc
  rcases hc with rfl | rfl | rfl | rfl | rfl | rfl | rfl
  · exact w_c0
  · exact w_c1
  · exact w_c2
  · exact w_c3
  · exact w_c4
  · exact w_c5
  · exact w_c6
set_option maxRecDepth 65536 in
theorem w_t1 : (words1.take 24).all (fun c => isCode c || c.before args0 about1) = true := by decide +kernel
set_option maxRecDepth 65536 in
theorem w_t2 : (words1.drop 24).all (fun c => isCode c || c.before args0 about1) = true := by decide +kernel
theorem w_tables : (allAtoms (Jvm.Cond.code x code maxLocals ret :: tables_1)).before args0 about1 = true := by
  rw [allAtoms_all]
  show words1.all (fun c => c.before args0 about1) = true
  refine all_split ?_ w_codes
  rw [← List.take_append_drop 24 words1, List.all_append, w_t1, w_t2]
  rfl
set_option maxRecDepth 65536 in
theorem w_case : (Jvm.Cond.and given_1 narrow_1).before args0 about1 = true := by decide +kernel
theorem w_applies : (headSpec (Jvm.Cond.code x code maxLocals ret :: tables_1) room_1).applies x e0.platform about1 = true :=
  (Spec.applies_iff w_frames).mpr ⟨w_running, w_runnable, w_alone, w_named, w_hears, w_ripe, w_room, w_tables⟩
theorem atStart : AtStart classFile x code maxLocals ret World_1 tables_1 room_1 Calls_1 rest_1 Pre_1 launch0 p0 e0 about1 theMethod args0 below0 :=
  ⟨lists_1, trivial, launch0.admits_env _ _ _, launch0.least_env, fairChoices_fair.cas, fairChoices_fair.clock, w_frames, w_args, w_heap, w_applies, trivial, trivial, w_case⟩
end start1
theorem witness_1 : WitnessClaimed_1 := ⟨start1.p0, start1.e0, start1.about1, start1.theMethod, start1.args0, start1.below0, start1.atStart⟩
end Jvm.Pilot.@@N@@
