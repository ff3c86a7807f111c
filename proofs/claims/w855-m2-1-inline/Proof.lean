import JvmDerived
import JvmDerived.Pilot.@@N@@Statement
import JvmDerived.Pilot.@@N@@Code
set_option linter.unusedVariables false
set_option linter.unusedSimpArgs false
/- laws to paste: Road.backV, Road.eqW, Road.codOf (cut by pick.py; bodies as the Statement names them) -/
namespace Jvm.Pilot.@@N@@
namespace StrChars
open Jvm Sem ClassFile Op Lib Jvm.Stand Jvm.Free.XT Jvm.Free.ALB Jvm.Free.JM Jvm.Free
open Jvm.Lib.Cold (StaticIs)
/-- a char array whose places are chars -/
def Ch (a : Addr) (A : Cell) (U : State) : Prop := Arr .char a A U ∧ Typed .char A
theorem Ch.mv {a : Addr} {A : Cell} {U U' : State} (h : Ch a A U) (hal : U.vm.Alike U'.vm) (hh : U'.heap = U.heap) : Ch a A U' := ⟨h.1.mv hal hh, h.2⟩
theorem Ch.keep {a : Addr} {A : Cell} {U U' : State} (h : Ch a A U) (hal : U.vm.Alike U'.vm) (hk : U'.heap[a]? = some A) : Ch a A U' := ⟨h.1.keep hal hk, h.2⟩
/-- what place i of a char[]'s cell holds -/
def cv (A : Cell) (i : Nat) : Int32 := match A.slots[i]? with | some (.int x) => x | _ => 0
theorem Ch.get {a : Addr} {A : Cell} {U : State} (h : Ch a A U) {i : Nat} (hi : i < A.slots.size) : A.slots[i]? = some (.int (cv A i)) := by
  have e := Array.getElem?_eq_getElem hi
  have f := h.2 i _ e
  unfold cv; rw [e]
  generalize A.slots[i] = v at f
  cases v <;> simp [fits] at f ⊢
/-- the byte that i2b leaves of a char -/
def lo8 (x : Int32) : Int32 := x.toInt8.toInt32
theorem fits_lo8 (y : Int32) : fits .byte (.int (lo8 y)) = true := by
  have h1 := y.toInt8.le_toInt
  have h2 := y.toInt8.toInt_lt
  simp only [lo8, fits, Bool.and_eq_true, decide_eq_true_eq, Int32.le_iff_toInt_le, Int8.toInt_toInt32, show (-128 : Int32).toInt = -128 from by decide, show (127 : Int32).toInt = 127 from by decide]
  omega
/-- A' is A but that each place j of lo .. hi - 1 holds f j -/
def Laid (A A' : Cell) (lo hi : Nat) (f : Nat → Value) : Prop := A'.cls = A.cls ∧ A'.vm = A.vm ∧ A'.slots.size = A.slots.size ∧ ∀ i, A'.slots[i]? = if lo ≤ i ∧ i < hi then some (f i) else A.slots[i]?
theorem Laid.zero (A : Cell) (lo : Nat) (f : Nat → Value) : Laid A A lo (lo + 0) f := ⟨rfl, rfl, rfl, fun i => by rw [if_neg (by omega)]⟩
theorem Laid.step {A Ak : Cell} {lo k : Nat} {f : Nat → Value} {v : Value} (h : Laid A Ak lo k f) (hlo : lo ≤ k) (hk : k < Ak.slots.size) (hv : v = f k) : Laid A (Ak.setSlot k v) lo (k + 1) f := by
  refine ⟨h.1, h.2.1, by simpa [Cell.setSlot] using h.2.2.1, fun i => ?_⟩
  by_cases e : k = i
  · subst e; rw [Cell.slots_setSlot_self v hk, if_pos (by omega), hv]
  · rw [Cell.slots_setSlot_ne v e, h.2.2.2 i]
    by_cases q : lo ≤ i ∧ i < k
    · rw [if_pos q, if_pos (by omega)]
    · rw [if_neg q, if_neg (by omega)]
def U16 : String := "java/lang/StringUTF16"
namespace Cmp5
def yN : MethodName := ⟨"java/lang/StringUTF16", "compress", "([CI[BII)I"⟩
abbrev yB : ByteArray := jdk_52_method_21_code
theorem d0 : decode yB 0 = .ok (.iconst 0, 1) := by decide +kernel
theorem d1 : decode yB 1 = .ok (.istore 5, 2) := by decide +kernel
theorem d3 : decode yB 3 = .ok (.iload 5, 2) := by decide +kernel
theorem d5 : decode yB 5 = .ok (.iload 4, 2) := by decide +kernel
theorem d7 : decode yB 7 = .ok (.if_icmp (.ge) 37, 3) := by decide +kernel
theorem d10 : decode yB 10 = .ok (.aload_n 0, 1) := by decide +kernel
theorem d11 : decode yB 11 = .ok (.iload_n 1, 1) := by decide +kernel
theorem d12 : decode yB 12 = .ok (.caload, 1) := by decide +kernel
theorem d13 : decode yB 13 = .ok (.istore 6, 2) := by decide +kernel
theorem d15 : decode yB 15 = .ok (.iload 6, 2) := by decide +kernel
theorem d17 : decode yB 17 = .ok (.sipush 255, 3) := by decide +kernel
theorem d20 : decode yB 20 = .ok (.if_icmp (.le) 6, 3) := by decide +kernel
theorem d26 : decode yB 26 = .ok (.aload_n 2, 1) := by decide +kernel
theorem d27 : decode yB 27 = .ok (.iload_n 3, 1) := by decide +kernel
theorem d28 : decode yB 28 = .ok (.iload 6, 2) := by decide +kernel
theorem d30 : decode yB 30 = .ok (.i2b, 1) := by decide +kernel
theorem d31 : decode yB 31 = .ok (.bastore, 1) := by decide +kernel
theorem d32 : decode yB 32 = .ok (.iinc 1 1, 3) := by decide +kernel
theorem d35 : decode yB 35 = .ok (.iinc 3 1, 3) := by decide +kernel
theorem d38 : decode yB 38 = .ok (.iinc 5 1, 3) := by decide +kernel
theorem d41 : decode yB 41 = .ok (.goto (-38), 3) := by decide +kernel
theorem d44 : decode yB 44 = .ok (.iload 4, 2) := by decide +kernel
theorem d46 : decode yB 46 = .ok (.ireturn, 1) := by decide +kernel
def site : List Cond := []
def tab : Cond := tabOf yN yB 7 (some .int) site
def P (b : Addr) (A : Cell) (d : Addr) (B : Cell) (o q len : Nat) (args : Array Value) (s : State) : Prop := args = #[.ref b, .int (Int32.ofNat o), .ref d, .int (Int32.ofNat q), .int (Int32.ofNat len)] ∧ Ch b A s ∧ Arr .byte d B s ∧ b ≠ d ∧ o + len ≤ A.slots.size ∧ q + len ≤ B.slots.size ∧ ∀ i, i < len → ¬ 255 < cv A (o + i)
def E (b : Addr) (A : Cell) (d : Addr) (B : Cell) (o q len : Nat) (r : Option Value) (s u : State) : Prop := r = some (.int (Int32.ofNat len)) ∧ ∃ B', Put d B' s u ∧ Laid B B' q (q + len) (fun j => Value.int (lo8 (cv A (o + (j - q)))))
/-- no char of the range above 255: len; the places written hold each char's low byte -/
theorem law (l : Launch) (b : Addr) (A : Cell) (d : Addr) (B : Cell) (o q len : Nat) : Law l yN 5 5 0 0 yB 7 (some .int) site (P b A d B o q len) (E b A d B o q len) (copyLocs d q len) 0 0 := by
  refine Law.of_walk (plainFor_of_name (by decide +kernel)) (by decide +kernel) (by decide +kernel) (by decide) (fun _ _ h => by rw [h.1]; rfl) (fun _ U U' hal hh h => ⟨h.1, h.2.1.mv hal hh, h.2.2.1.mv hal hh, h.2.2.2⟩) (fun r U U' V V' h1 hal h2 h => ⟨h.1, h.2.elim fun B' q => ⟨B', q.1.mv h1 h2, q.2⟩⟩) ?_
  intro p e s m args below meth c s₁ X0 hexec hbytes hml hret hlk hnm hown hh0 W hP
  obtain ⟨rfl, hA, hB, hne, l1, l2, hp⟩ := hP
  have c1 : Steps p.tables e below (s₁.setTop (entryFrame m #[.ref b, .int (Int32.ofNat o), .ref d, .int (Int32.ofNat q), .int (Int32.ofNat len)] 7)) (s₁.setTop (mkF m 0 #[.val (.ref b), .val (.int (Int32.ofNat o)), .val (.ref d), .val (.int (Int32.ofNat q)), .val (.int (Int32.ofNat len)), .unset, .unset] [])) := entry rfl
  have hA0 := hA.1.mv X0.warmed.alike hh0
  have hB0 := hB.mv X0.warmed.alike hh0
  have a31 := hA.1.2.2.2
  have c2 : Steps p.tables e below (s₁.setTop (entryFrame m #[.ref b, .int (Int32.ofNat o), .ref d, .int (Int32.ofNat q), .int (Int32.ofNat len)] 7)) (s₁.setTop (mkF m 3 #[.val (.ref b), .val (.int (Int32.ofNat o)), .val (.ref d), .val (.int (Int32.ofNat q)), .val (.int (Int32.ofNat len)), .val (.int 0), .unset] [])) := c1.trans (by
    refine iconstV X0.here hexec rfl 0 (hb hbytes d0) (by decide) ?_
    refine XS.istore X0.here hexec rfl (hb hbytes d1) rfl rfl ?_
    exact Steps.refl _)
  have loop : ∀ (r i : Nat), i + r = len → ∀ (z : Slot), (z = .unset ∨ ∃ w, z = .val w ∧ w.category = 1) → ∀ (Tl : State) (Bk : Cell), Stand p l e { frames := 0, locals := 0, cells := 0, slots := 0 } s m #[.ref b, .int (Int32.ofNat o), .ref d, .int (Int32.ofNat q), .int (Int32.ofNat len)] below meth c Tl ([] ++ copyLocs d q i) 0 0 → Put d Bk s₁ Tl → Laid B Bk q (q + i) (fun j => Value.int (lo8 (cv A (o + (j - q))))) →
      Steps p.tables e below (s₁.setTop (entryFrame m #[.ref b, .int (Int32.ofNat o), .ref d, .int (Int32.ofNat q), .int (Int32.ofNat len)] 7)) (Tl.setTop (mkF m 3 #[.val (.ref b), .val (.int (Int32.ofNat (o + i))), .val (.ref d), .val (.int (Int32.ofNat (q + i))), .val (.int (Int32.ofNat len)), .val (.int (Int32.ofNat i)), z] [])) → ∃ (T' : State) (B' : Cell) (z' : Slot), Stand p l e { frames := 0, locals := 0, cells := 0, slots := 0 } s m #[.ref b, .int (Int32.ofNat o), .ref d, .int (Int32.ofNat q), .int (Int32.ofNat len)] below meth c T' ([] ++ copyLocs d q len) 0 0 ∧ Put d B' s₁ T' ∧ Laid B B' q (q + len) (fun j => Value.int (lo8 (cv A (o + (j - q))))) ∧
      Steps p.tables e below (s₁.setTop (entryFrame m #[.ref b, .int (Int32.ofNat o), .ref d, .int (Int32.ofNat q), .int (Int32.ofNat len)] 7)) (T'.setTop (mkF m 3 #[.val (.ref b), .val (.int (Int32.ofNat (o + len))), .val (.ref d), .val (.int (Int32.ofNat (q + len))), .val (.int (Int32.ofNat len)), .val (.int (Int32.ofNat len)), z'] [])) := by
    intro r
    induction r with
    | zero =>
      intro i hi z hz Tl Bk Xl pl fl cl
      have hil : i = len := by omega
      rw [hil] at Xl fl cl
      exact ⟨Tl, Bk, z, Xl, pl, fl, cl⟩
    | succ r ih =>
      intro i hi z hz Tl Bk Xl pl fl cl
      have all := X0.warmed.alike.symm.trans Xl.warmed.alike
      have hAl := hA0.keep all (pl.other hne hA0.1)
      have hBk := hB0.like all pl.1 fl.1 fl.2.1 fl.2.2.1
      have hlt : q + i < Bk.slots.size := by rw [fl.2.2.1]; omega
      have c3 : Steps p.tables e below (s₁.setTop (entryFrame m #[.ref b, .int (Int32.ofNat o), .ref d, .int (Int32.ofNat q), .int (Int32.ofNat len)] 7)) (Tl.setTop (mkF m 12 #[.val (.ref b), .val (.int (Int32.ofNat (o + i))), .val (.ref d), .val (.int (Int32.ofNat (q + i))), .val (.int (Int32.ofNat len)), .val (.int (Int32.ofNat i)), z] [.int (Int32.ofNat (o + i)), .ref b])) := cl.trans (by
        refine XS.iload Xl.here hexec rfl (hb hbytes d3) rfl ?_
        refine XS.iload Xl.here hexec rfl (hb hbytes d5) rfl ?_
        refine XS.icmpNo Xl.here hexec rfl (hb hbytes d7) rfl (ii_ge_f (lt32 (by omega) (by omega))) ?_
        refine XS.aloadN Xl.here hexec rfl (hb hbytes d10) rfl rfl ?_
        refine XS.iloadN Xl.here hexec rfl (hb hbytes d11) rfl ?_
        exact Steps.refl _)
      have c4 : Steps p.tables e below (s₁.setTop (entryFrame m #[.ref b, .int (Int32.ofNat o), .ref d, .int (Int32.ofNat q), .int (Int32.ofNat len)] 7)) (Tl.setTop (mkF m 13 #[.val (.ref b), .val (.int (Int32.ofNat (o + i))), .val (.ref d), .val (.int (Int32.ofNat (q + i))), .val (.int (Int32.ofNat len)), .val (.int (Int32.ofNat i)), z] [.int (cv A (o + i))])) := c3.trans (by
        refine Xl.aget hexec hAl rfl (hA.get (i := o + i) (by omega)) rfl rfl (hb hbytes d12) ?_
        exact Steps.refl _)
      have c5 : Steps p.tables e below (s₁.setTop (entryFrame m #[.ref b, .int (Int32.ofNat o), .ref d, .int (Int32.ofNat q), .int (Int32.ofNat len)] 7)) (Tl.setTop (mkF m 15 #[.val (.ref b), .val (.int (Int32.ofNat (o + i))), .val (.ref d), .val (.int (Int32.ofNat (q + i))), .val (.int (Int32.ofNat len)), .val (.int (Int32.ofNat i)), .val (.int (cv A (o + i)))] [])) := c4.trans (by
        refine XS.istoreS Xl.here hexec rfl (hb hbytes d13) rfl rfl hz ?_
        exact Steps.refl _)
      have c6 : Steps p.tables e below (s₁.setTop (entryFrame m #[.ref b, .int (Int32.ofNat o), .ref d, .int (Int32.ofNat q), .int (Int32.ofNat len)] 7)) (Tl.setTop (mkF m 31 #[.val (.ref b), .val (.int (Int32.ofNat (o + i))), .val (.ref d), .val (.int (Int32.ofNat (q + i))), .val (.int (Int32.ofNat len)), .val (.int (Int32.ofNat i)), .val (.int (cv A (o + i)))] [.int (lo8 (cv A (o + i))), .int (Int32.ofNat (q + i)), .ref d])) := c5.trans (by
        refine XS.iload Xl.here hexec rfl (hb hbytes d15) rfl ?_
        refine sipushV Xl.here hexec rfl 255 (hb hbytes d17) (by decide) ?_
        refine XS.icmpYes Xl.here hexec rfl (pc0 := 20) rfl (hb hbytes d20) rfl (ii_le_t (hp i (by omega))) (by decide) rfl ?_
        refine XS.aloadN Xl.here hexec rfl (hb hbytes d26) rfl rfl ?_
        refine XS.iloadN Xl.here hexec rfl (hb hbytes d27) rfl ?_
        refine XS.iload Xl.here hexec rfl (hb hbytes d28) rfl ?_
        refine i2b Xl.here hexec rfl (hb hbytes d30) rfl ?_
        exact Steps.refl _)
      obtain ⟨T7, X7, p7, st7⟩ := Xl.aput hexec hBk rfl hlt rfl (fits_lo8 (cv A (o + i))) (g := (mkF m 31 #[.val (.ref b), .val (.int (Int32.ofNat (o + i))), .val (.ref d), .val (.int (Int32.ofNat (q + i))), .val (.int (Int32.ofNat len)), .val (.int (Int32.ofNat i)), .val (.int (cv A (o + i)))] [.int (lo8 (cv A (o + i))), .int (Int32.ofNat (q + i)), .ref d])) rfl (rest := []) rfl (hb hbytes d31)
      have c8 : Steps p.tables e below (s₁.setTop (entryFrame m #[.ref b, .int (Int32.ofNat o), .ref d, .int (Int32.ofNat q), .int (Int32.ofNat len)] 7)) (T7.setTop (mkF m 32 #[.val (.ref b), .val (.int (Int32.ofNat (o + i))), .val (.ref d), .val (.int (Int32.ofNat (q + i))), .val (.int (Int32.ofNat len)), .val (.int (Int32.ofNat i)), .val (.int (cv A (o + i)))] [])) := c6.trans (st7 _ (Steps.refl _))
      have c9 : Steps p.tables e below (s₁.setTop (entryFrame m #[.ref b, .int (Int32.ofNat o), .ref d, .int (Int32.ofNat q), .int (Int32.ofNat len)] 7)) (T7.setTop (mkF m 3 #[.val (.ref b), .val (.int (Int32.ofNat (o + i) + 1)), .val (.ref d), .val (.int (Int32.ofNat (q + i) + 1)), .val (.int (Int32.ofNat len)), .val (.int (Int32.ofNat i + 1)), .val (.int (cv A (o + i)))] [])) := c8.trans (by
        refine iincV X7.here hexec rfl 1 (hb hbytes d32) (by decide) rfl rfl ?_
        refine iincV X7.here hexec rfl 1 (hb hbytes d35) (by decide) rfl rfl ?_
        refine iincV X7.here hexec rfl 1 (hb hbytes d38) (by decide) rfl rfl ?_
        refine XS.goto X7.here hexec rfl (pc0 := 41) rfl (hb hbytes d41) (by decide) rfl ?_
        exact Steps.refl _)
      have c10 : Steps p.tables e below (s₁.setTop (entryFrame m #[.ref b, .int (Int32.ofNat o), .ref d, .int (Int32.ofNat q), .int (Int32.ofNat len)] 7)) (T7.setTop (mkF m 3 #[.val (.ref b), .val (.int (Int32.ofNat (o + (i + 1)))), .val (.ref d), .val (.int (Int32.ofNat (q + (i + 1)))), .val (.int (Int32.ofNat len)), .val (.int (Int32.ofNat (i + 1))), .val (.int (cv A (o + i)))] [])) := by
        have := c9
        rw [succ32, succ32, succ32] at this
        exact this
      exact ih (i + 1) (by omega) _ (Or.inr ⟨_, rfl, rfl⟩) T7 _ (by rw [copyLocs_step, ← List.append_assoc]; exact X7) (pl.trans p7) (fl.step (by omega) hlt (by simp)) c10
  obtain ⟨T9, B9, z9, X9, p9, f9, g9⟩ := loop len 0 (by omega) .unset (Or.inl rfl) s₁ B (by simpa [copyLocs] using X0) ⟨hB0.1, fun _ _ => rfl, rfl⟩ (Laid.zero _ _ _) c2
  have c11 : Steps p.tables e below (s₁.setTop (entryFrame m #[.ref b, .int (Int32.ofNat o), .ref d, .int (Int32.ofNat q), .int (Int32.ofNat len)] 7)) (T9.setTop (mkF m 46 #[.val (.ref b), .val (.int (Int32.ofNat (o + len))), .val (.ref d), .val (.int (Int32.ofNat (q + len))), .val (.int (Int32.ofNat len)), .val (.int (Int32.ofNat len)), z9] [.int (Int32.ofNat len)])) := g9.trans (by
    refine XS.iload X9.here hexec rfl (hb hbytes d3) rfl ?_
    refine XS.iload X9.here hexec rfl (hb hbytes d5) rfl ?_
    refine XS.icmpYes X9.here hexec rfl (pc0 := 7) rfl (hb hbytes d7) rfl (ii_ge_t (nlt32 (by omega) (Nat.le_refl _))) (by decide) rfl ?_
    refine XS.iload X9.here hexec rfl (hb hbytes d44) rfl ?_
    exact Steps.refl _)
  exact ⟨T9, some (.int (Int32.ofNat len)), _, _, _, X9, by simp, rfl, rfl, (fun h => by cases h), ⟨rfl, B9, p9.from hh0, f9⟩, fun fs hl => c11.trans (X9.ireturnOut hexec hret rfl (Or.inl rfl) (hb hbytes d46) hl)⟩
end Cmp5
namespace Cmp3
def yN : MethodName := ⟨"java/lang/StringUTF16", "compress", "([CII)[B"⟩
abbrev yB : ByteArray := jdk_52_method_16_code
theorem d0 : decode yB 0 = .ok (.iload_n 2, 1) := by decide +kernel
theorem d1 : decode yB 1 = .ok (.newarray .byte, 2) := by decide +kernel
theorem d3 : decode yB 3 = .ok (.astore_n 3, 1) := by decide +kernel
theorem d4 : decode yB 4 = .ok (.aload_n 0, 1) := by decide +kernel
theorem d5 : decode yB 5 = .ok (.iload_n 1, 1) := by decide +kernel
theorem d6 : decode yB 6 = .ok (.aload_n 3, 1) := by decide +kernel
theorem d7 : decode yB 7 = .ok (.iconst 0, 1) := by decide +kernel
theorem d8 : decode yB 8 = .ok (.iload_n 2, 1) := by decide +kernel
theorem d9 : decode yB 9 = .ok (.invokestatic 115, 3) := by decide +kernel
theorem d12 : decode yB 12 = .ok (.istore 4, 2) := by decide +kernel
theorem d14 : decode yB 14 = .ok (.iload 4, 2) := by decide +kernel
theorem d16 : decode yB 16 = .ok (.iload_n 2, 1) := by decide +kernel
theorem d17 : decode yB 17 = .ok (.if_icmp (.eq) 40, 3) := by decide +kernel
theorem d57 : decode yB 57 = .ok (.aload_n 3, 1) := by decide +kernel
theorem d58 : decode yB 58 = .ok (.areturn, 1) := by decide +kernel
def site : List Cond := [.arrayClass .byte, Cmp5.tab] ++ staticW U16 115 Cmp5.yN
def tab : Cond := tabOf yN yB 6 (some (.array .byte)) site
def P (b : Addr) (A : Cell) (o len : Nat) (args : Array Value) (s : State) : Prop := args = #[.ref b, .int (Int32.ofNat o), .int (Int32.ofNat len)] ∧ Ch b A s ∧ o + len ≤ A.slots.size ∧ len ≤ 536870912 ∧ ∀ i, i < len → ¬ 255 < cv A (o + i)
def E (b : Addr) (A : Cell) (o len : Nat) (r : Option Value) (s u : State) : Prop := NewArr .byte "[B" len (fun j => .int (lo8 (cv A (o + j)))) r s u ∧ u.heap.size = s.heap.size + 1
/-- no char of the range above 255: a new byte[] of their low bytes -/
theorem law (l : Launch) (b : Addr) (A : Cell) (o len : Nat) : Law l yN 3 3 1 18 yB 6 (some (.array .byte)) site (P b A o len) (E b A o len) [] 1 len := by
  refine Law.of_walk (plainFor_of_name (by decide +kernel)) (by decide +kernel) (by decide +kernel) (by decide) (fun _ _ h => by rw [h.1]; rfl) (fun _ U U' hal hh h => ⟨h.1, h.2.1.mv hal hh, h.2.2⟩) (fun r U U' V V' h1 hal h2 h => ⟨NewArr.mv r U U' V V' h1 hal h2 h.1, by rw [h1, h2]; exact h.2⟩) ?_
  intro p e s m args below meth c s₁ X0 hexec hbytes hml hret hlk hnm hown hh0 W hP
  obtain ⟨rfl, hA, l1, l2, hp⟩ := hP
  have a31 := hA.1.2.2.2
  have c1 : Steps p.tables e below (s₁.setTop (entryFrame m #[.ref b, .int (Int32.ofNat o), .int (Int32.ofNat len)] 6)) (s₁.setTop (mkF m 0 #[.val (.ref b), .val (.int (Int32.ofNat o)), .val (.int (Int32.ofNat len)), .unset, .unset, .unset] [])) := entry rfl
  have c2 : Steps p.tables e below (s₁.setTop (entryFrame m #[.ref b, .int (Int32.ofNat o), .int (Int32.ofNat len)] 6)) (s₁.setTop (mkF m 1 #[.val (.ref b), .val (.int (Int32.ofNat o)), .val (.int (Int32.ofNat len)), .unset, .unset, .unset] [.int (Int32.ofNat len)])) := c1.trans (by
    refine XS.iloadN X0.here hexec rfl (hb hbytes d0) rfl ?_
    exact Steps.refl _)
  obtain ⟨T3, B3, X3, ba3, bs3, bv3, bh3, bf3, st3⟩ := X0.anew hexec (atype := .byte) (wk W (.arrayClass .byte)) rfl (by show len * 1 ≤ _; omega) (by omega) (g := (mkF m 1 #[.val (.ref b), .val (.int (Int32.ofNat o)), .val (.int (Int32.ofNat len)), .unset, .unset, .unset] [.int (Int32.ofNat len)])) rfl (hb hbytes d1) (rest := []) rfl (Nat.le_refl _) (by show 0 + len ≤ len; omega)
  rw [hh0] at ba3 st3
  have kp3 : XT.Kept s T3 := (XT.Kept.of_eq hh0).push bh3
  have hA3 := hA.keep X3.warmed.alike (kp3 _ _ hA.1.1)
  have hne : b ≠ s.heap.size := hA.1.ne
  have c4 : Steps p.tables e below (s₁.setTop (entryFrame m #[.ref b, .int (Int32.ofNat o), .int (Int32.ofNat len)] 6)) (T3.setTop (mkF m 3 #[.val (.ref b), .val (.int (Int32.ofNat o)), .val (.int (Int32.ofNat len)), .unset, .unset, .unset] [.ref s.heap.size])) := c2.trans (st3 _ (Steps.refl _))
  have c5 : Steps p.tables e below (s₁.setTop (entryFrame m #[.ref b, .int (Int32.ofNat o), .int (Int32.ofNat len)] 6)) (T3.setTop (mkF m 9 #[.val (.ref b), .val (.int (Int32.ofNat o)), .val (.int (Int32.ofNat len)), .val (.ref s.heap.size), .unset, .unset] [.int (Int32.ofNat len), .int 0, .ref s.heap.size, .int (Int32.ofNat o), .ref b])) := c4.trans (by
    refine XS.astoreN X3.here hexec rfl (hb hbytes d3) rfl rfl rfl ?_
    refine XS.aloadN X3.here hexec rfl (hb hbytes d4) rfl rfl ?_
    refine XS.iloadN X3.here hexec rfl (hb hbytes d5) rfl ?_
    refine XS.aloadN X3.here hexec rfl (hb hbytes d6) rfl rfl ?_
    refine iconstV X3.here hexec rfl 0 (hb hbytes d7) (by decide) ?_
    refine XS.iloadN X3.here hexec rfl (hb hbytes d8) rfl ?_
    exact Steps.refl _)
  obtain ⟨v6, T6, X6, E6, g6⟩ := X3.callS hexec (Cmp5.law l b A s.heap.size B3 o 0 len) hown (wks W (staticW U16 115 Cmp5.yN)) (wk W Cmp5.tab) (W := 0) (Nat.le_of_ble_eq_true rfl) (Nat.le_of_ble_eq_true rfl) (Nat.le_refl _) (by show 0 + len + 0 ≤ len; omega) (g := (mkF m 9 #[.val (.ref b), .val (.int (Int32.ofNat o)), .val (.int (Int32.ofNat len)), .val (.ref s.heap.size), .unset, .unset] [.int (Int32.ofNat len), .int (Int32.ofNat 0), .ref s.heap.size, .int (Int32.ofNat o), .ref b])) rfl (by rw [hml]; rfl) c5 (argsL := [.ref b, .int (Int32.ofNat o), .ref s.heap.size, .int (Int32.ofNat 0), .int (Int32.ofNat len)]) (rest := []) rfl rfl (by show 2 * 0 + 0 ≤ _; decide) (hb hbytes d9) (⟨rfl, hA3, ba3, hne, l1, by rw [bs3]; simp, hp⟩)
  obtain ⟨rfl, B6, p6, f6⟩ := E6
  have c7 : Steps p.tables e below (s₁.setTop (entryFrame m #[.ref b, .int (Int32.ofNat o), .int (Int32.ofNat len)] 6)) (T6.setTop (mkF m 12 #[.val (.ref b), .val (.int (Int32.ofNat o)), .val (.int (Int32.ofNat len)), .val (.ref s.heap.size), .unset, .unset] [.int (Int32.ofNat len)])) := g6
  have c8 : Steps p.tables e below (s₁.setTop (entryFrame m #[.ref b, .int (Int32.ofNat o), .int (Int32.ofNat len)] 6)) (T6.setTop (mkF m 58 #[.val (.ref b), .val (.int (Int32.ofNat o)), .val (.int (Int32.ofNat len)), .val (.ref s.heap.size), .val (.int (Int32.ofNat len)), .unset] [.ref s.heap.size])) := c7.trans (by
    refine XS.istore X6.here hexec rfl (hb hbytes d12) rfl rfl ?_
    refine XS.iload X6.here hexec rfl (hb hbytes d14) rfl ?_
    refine XS.iloadN X6.here hexec rfl (hb hbytes d16) rfl ?_
    refine XS.icmpYes X6.here hexec rfl (pc0 := 17) rfl (hb hbytes d17) rfl (ii_eq_t rfl) (by decide) rfl ?_
    refine XS.aloadN X6.here hexec rfl (hb hbytes d57) rfl rfl ?_
    exact Steps.refl _)
  have X8 := X6.wide (L' := []) (cells' := 1) (slots' := len) (fun x hx hlt => by
    simp only [List.nil_append, copyLocs, List.mem_map, List.mem_range] at hx
    obtain ⟨i, -, rfl⟩ := hx
    exact absurd hlt (Nat.lt_irrefl _)) (Nat.le_refl _) (by omega)
  exact ⟨T6, some (.ref s.heap.size), _, _, _, X8, rfl, rfl, rfl, (fun h => by cases h), ⟨⟨rfl, B6, ba3.like (X3.warmed.alike.symm.trans X6.warmed.alike) p6.1 f6.1 f6.2.1 f6.2.2.1, f6.2.1.trans bv3, by rw [X6.warmed.alike.findClass, f6.1]; exact bf3, by rw [f6.2.2.1, bs3]; simp, fun j hj => by rw [f6.2.2.2 j, if_pos (by omega)]; rfl, kp3.put p6 (Nat.le_refl _)⟩, by rw [p6.2.2, bh3, hh0]; simp⟩, fun fs hl => c8.trans (X8.areturnOut hexec rfl hret rfl (hb hbytes d58) hl)⟩
end Cmp3
namespace CodL
def yN : MethodName := ⟨"java/lang/StringUTF16", "coderFromArrayLen", "([BI)B"⟩
abbrev yB : ByteArray := jdk_52_method_15_code
theorem d0 : decode yB 0 = .ok (.iload_n 1, 1) := by decide +kernel
theorem d1 : decode yB 1 = .ok (.aload_n 0, 1) := by decide +kernel
theorem d2 : decode yB 2 = .ok (.arraylength, 1) := by decide +kernel
theorem d3 : decode yB 3 = .ok (.isub, 1) := by decide +kernel
theorem d4 : decode yB 4 = .ok (.bipush 31, 2) := by decide +kernel
theorem d6 : decode yB 6 = .ok (.iushr, 1) := by decide +kernel
theorem d7 : decode yB 7 = .ok (.i2b, 1) := by decide +kernel
theorem d8 : decode yB 8 = .ok (.ireturn, 1) := by decide +kernel
def site : List Cond := []
def tab : Cond := tabOf yN yB 2 (some .byte) site
def P (d : Addr) (B : Cell) (args : Array Value) (s : State) : Prop := args = #[.ref d, .int (Int32.ofNat B.slots.size)] ∧ Arr .byte d B s
def E (r : Option Value) (s u : State) : Prop := XT.PureE (some (.int 0)) r s u
/-- an array as long as the number of chars: LATIN1 -/
theorem law (l : Launch) (d : Addr) (B : Cell) : Law l yN 2 2 0 0 yB 2 (some .byte) site (P d B) E [] 0 0 := by
  refine Law.of_walk (plainFor_of_name (by decide +kernel)) (by decide +kernel) (by decide +kernel) (by decide) (fun _ _ h => by rw [h.1]; rfl) (fun _ U U' hal hh h => ⟨h.1, h.2.mv hal hh⟩) (fun r U U' V V' h1 hal h2 h => XT.PureE.mv r U U' V V' h1 hal h2 h) ?_
  intro p e s m args below meth c s₁ X0 hexec hbytes hml hret hlk hnm hown hh0 W hP
  obtain ⟨rfl, hB⟩ := hP
  have hB0 := hB.mv X0.warmed.alike hh0
  have c1 : Steps p.tables e below (s₁.setTop (entryFrame m #[.ref d, .int (Int32.ofNat B.slots.size)] 2)) (s₁.setTop (mkF m 0 #[.val (.ref d), .val (.int (Int32.ofNat B.slots.size))] [])) := entry rfl
  have c2 : Steps p.tables e below (s₁.setTop (entryFrame m #[.ref d, .int (Int32.ofNat B.slots.size)] 2)) (s₁.setTop (mkF m 2 #[.val (.ref d), .val (.int (Int32.ofNat B.slots.size))] [.ref d, .int (Int32.ofNat B.slots.size)])) := c1.trans (by
    refine XS.iloadN X0.here hexec rfl (hb hbytes d0) rfl ?_
    refine XS.aloadN X0.here hexec rfl (hb hbytes d1) rfl rfl ?_
    exact Steps.refl _)
  have c3 : Steps p.tables e below (s₁.setTop (entryFrame m #[.ref d, .int (Int32.ofNat B.slots.size)] 2)) (s₁.setTop (mkF m 8 #[.val (.ref d), .val (.int (Int32.ofNat B.slots.size))] [.int (lo8 (ushr (Int32.ofNat B.slots.size - Int32.ofNat B.slots.size) 31))])) := c2.trans (by
    refine X0.alen hexec hB0 rfl rfl (hb hbytes d2) ?_
    refine XS.isub X0.here hexec rfl (hb hbytes d3) rfl ?_
    refine bipushV X0.here hexec rfl 31 (hb hbytes d4) (by decide) ?_
    refine iushr X0.here hexec rfl (hb hbytes d6) rfl ?_
    refine i2b X0.here hexec rfl (hb hbytes d7) rfl ?_
    exact Steps.refl _)
  have e0 : lo8 (ushr (Int32.ofNat B.slots.size - Int32.ofNat B.slots.size) 31) = 0 := by rw [Int32.sub_self]; decide
  rw [e0] at c3
  exact ⟨s₁, some (.int 0), _, _, _, X0, rfl, rfl, rfl, (fun h => by cases h), ⟨rfl, hh0⟩, fun fs hl => c3.trans (X0.ireturnOut hexec hret rfl (Or.inr (Or.inr (Or.inl rfl))) (hb hbytes d8) hl)⟩
end CodL
/-- the String at a is Latin-1 over a new byte[] (the heap's one new cell): the low bytes of the len chars of A from o on; every cell but a is kept -/
def Got (a : Addr) (D : Cell) (fV fC : Field) (A : Cell) (o len : Nat) (r : Option Value) (s u : State) : Prop := r = none ∧ ∃ D' V : Cell, Blank "java/lang/String" a D' u ∧ Same D D' [fV.slot, fC.slot] ∧ D'.slots[fV.slot]? = some (.ref s.heap.size) ∧ D'.slots[fC.slot]? = some (.int 0) ∧ Arr .byte s.heap.size V u ∧ V.vm = .none ∧ u.vm.findClass "[B" = some V.cls ∧ V.slots.size = len ∧ (∀ j, j < len → V.slots[j]? = some (.int (lo8 (cv A (o + j))))) ∧ (∀ (y : Addr) (c : Cell), y ≠ a → s.heap[y]? = some c → u.heap[y]? = some c) ∧ u.heap.size = s.heap.size + 1
theorem Got.mv {a : Addr} {D A : Cell} {fV fC : Field} {o len : Nat} : ∀ r (U U' V V' : State), U'.heap = U.heap → V.vm.Alike V'.vm → V'.heap = V.heap → Got a D fV fC A o len r U V → Got a D fV fC A o len r U' V' :=
  fun r U U' V V' h1 hal h2 ⟨e0, D', X, a1, a2, a3, a4, a5, a6, a7, a8, a9, a10, a11⟩ => ⟨e0, D', X, a1.mv hal h2, a2, by rw [h1]; exact a3, a4, by rw [h1]; exact a5.mv hal h2, a6, by rw [hal.findClass]; exact a7, a8, a9, by rw [h1, h2]; exact a10, by rw [h1, h2]; exact a11⟩
namespace New4
def yN : MethodName := ⟨"java/lang/String", "<init>", "([CIILjava/lang/Void;)V"⟩
abbrev yB : ByteArray := jdk_42_method_149_code
theorem d0 : decode yB 0 = .ok (.aload_n 0, 1) := by decide +kernel
theorem d1 : decode yB 1 = .ok (.invokespecial 1, 3) := by decide +kernel
theorem d4 : decode yB 4 = .ok (.iload_n 3, 1) := by decide +kernel
theorem d5 : decode yB 5 = .ok (.ifCond (.ne) 22, 3) := by decide +kernel
theorem d27 : decode yB 27 = .ok (.getstatic 38, 3) := by decide +kernel
theorem d30 : decode yB 30 = .ok (.ifCond (.eq) 28, 3) := by decide +kernel
theorem d33 : decode yB 33 = .ok (.aload_n 1, 1) := by decide +kernel
theorem d34 : decode yB 34 = .ok (.iload_n 2, 1) := by decide +kernel
theorem d35 : decode yB 35 = .ok (.iload_n 3, 1) := by decide +kernel
theorem d36 : decode yB 36 = .ok (.invokestatic 177, 3) := by decide +kernel
theorem d39 : decode yB 39 = .ok (.astore 5, 2) := by decide +kernel
theorem d41 : decode yB 41 = .ok (.aload_n 0, 1) := by decide +kernel
theorem d42 : decode yB 42 = .ok (.aload 5, 2) := by decide +kernel
theorem d44 : decode yB 44 = .ok (.iload_n 3, 1) := by decide +kernel
theorem d45 : decode yB 45 = .ok (.invokestatic 47, 3) := by decide +kernel
theorem d48 : decode yB 48 = .ok (.putfield 15, 3) := by decide +kernel
theorem d51 : decode yB 51 = .ok (.aload_n 0, 1) := by decide +kernel
theorem d52 : decode yB 52 = .ok (.aload 5, 2) := by decide +kernel
theorem d54 : decode yB 54 = .ok (.putfield 9, 3) := by decide +kernel
theorem d57 : decode yB 57 = .ok (.return_, 1) := by decide +kernel
def site : List Cond := [.fieldLink "java/lang/String" 38 "java/lang/String" "COMPACT_STRINGS" "Z", Cmp3.tab, CodL.tab, .laysFinal "java/lang/String" "java/lang/String" "value" "[B", .fieldLink "java/lang/String" 9 "java/lang/String" "value" "[B", .laysFinal "java/lang/String" "java/lang/String" "coder" "B", .fieldLink "java/lang/String" 15 "java/lang/String" "coder" "B"] ++ objW "java/lang/String" 1 ++ staticW "java/lang/String" 177 Cmp3.yN ++ staticW "java/lang/String" 47 CodL.yN
def tab : Cond := tabOf yN yB 6 none site
def P (a : Addr) (D : Cell) (fV fC : Field) (b : Addr) (A : Cell) (z : Int32) (o len : Nat) (args : Array Value) (s : State) : Prop := args = #[.ref a, .ref b, .int (Int32.ofNat o), .int (Int32.ofNat len), .null] ∧ Blank "java/lang/String" a D s ∧ Found "java/lang/String" "value" "[B" fV s ∧ Found "java/lang/String" "coder" "B" fC s ∧ Ch b A s ∧ StaticIs s "java/lang/String" "COMPACT_STRINGS" "Z" (.int z) ∧ ¬ z = 0 ∧ 0 < len ∧ o + len ≤ A.slots.size ∧ len ≤ 536870912 ∧ ∀ i, i < len → ¬ 255 < cv A (o + i)
def E (a : Addr) (D : Cell) (fV fC : Field) (A : Cell) (o len : Nat) (r : Option Value) (s u : State) : Prop := Got a D fV fC A o len r s u
/-- len > 0, no char of the range above 255: a Latin-1 String of their low bytes -/
theorem law (l : Launch) (a : Addr) (D : Cell) (fV fC : Field) (b : Addr) (A : Cell) (z : Int32) (o len : Nat) : Law l yN 5 4 2 35 yB 6 none site (P a D fV fC b A z o len) (E a D fV fC A o len) [⟨a, fC.slot⟩, ⟨a, fV.slot⟩] 1 len := by
  refine Law.of_walk (plainFor_of_name (by decide +kernel)) (by decide +kernel) (by decide +kernel) (by decide) (fun _ _ h => by rw [h.1]; rfl) (fun _ U U' hal hh h => ⟨h.1, h.2.1.mv hal hh, h.2.2.1.al hal, h.2.2.2.1.al hal, h.2.2.2.2.1.mv hal hh, h.2.2.2.2.2.1.there hal hh, h.2.2.2.2.2.2⟩) (fun r U U' V V' h1 hal h2 h => Got.mv r U U' V V' h1 hal h2 h) ?_
  intro p e s m args below meth c s₁ X0 hexec hbytes hml hret hlk hnm hown hh0 W hP
  obtain ⟨rfl, hB, f1, f2, hA, s1, hz, l0, l1, l2, hp⟩ := hP
  have a31 := hA.1.2.2.2
  have c1 : Steps p.tables e below (s₁.setTop (entryFrame m #[.ref a, .ref b, .int (Int32.ofNat o), .int (Int32.ofNat len), .null] 6)) (s₁.setTop (mkF m 0 #[.val (.ref a), .val (.ref b), .val (.int (Int32.ofNat o)), .val (.int (Int32.ofNat len)), .val .null, .unset] [])) := entry rfl
  have c2 : Steps p.tables e below (s₁.setTop (entryFrame m #[.ref a, .ref b, .int (Int32.ofNat o), .int (Int32.ofNat len), .null] 6)) (s₁.setTop (mkF m 1 #[.val (.ref a), .val (.ref b), .val (.int (Int32.ofNat o)), .val (.int (Int32.ofNat len)), .val .null, .unset] [.ref a])) := c1.trans (by
    refine XS.aloadN X0.here hexec rfl (hb hbytes d0) rfl rfl ?_
    exact Steps.refl _)
  obtain ⟨T3, X3, q3, st3⟩ := X0.oinit hexec hown (wks W (objW "java/lang/String" 1)) (g := (mkF m 1 #[.val (.ref a), .val (.ref b), .val (.int (Int32.ofNat o)), .val (.int (Int32.ofNat len)), .val .null, .unset] [.ref a])) rfl (by rw [hml]; rfl) (rest := []) rfl (hb hbytes d1) (W := 0) (by show 2 * 0 + 0 ≤ _; decide) (Nat.le_of_ble_eq_true rfl) (Nat.le_of_ble_eq_true rfl)
  have hh3 := q3.trans hh0
  have c4 : Steps p.tables e below (s₁.setTop (entryFrame m #[.ref a, .ref b, .int (Int32.ofNat o), .int (Int32.ofNat len), .null] 6)) (T3.setTop (mkF m 27 #[.val (.ref a), .val (.ref b), .val (.int (Int32.ofNat o)), .val (.int (Int32.ofNat len)), .val .null, .unset] [])) := (c2.trans (st3 _ (Steps.refl _))).trans (by
    refine XS.iloadN X3.here hexec rfl (hb hbytes d4) rfl ?_
    refine XS.ifYes X3.here hexec rfl (pc0 := 5) rfl (hb hbytes d5) rfl (i0_ne_t (nz32 (by omega) l0)) (by decide) rfl ?_
    exact Steps.refl _)
  obtain ⟨T5, X5, q5, st5⟩ := X3.sget hexec hown (wk W (.fieldLink "java/lang/String" 38 "java/lang/String" "COMPACT_STRINGS" "Z")) s1 (fun _ _ h => by rw [hh3]; exact h) (g := (mkF m 27 #[.val (.ref a), .val (.ref b), .val (.int (Int32.ofNat o)), .val (.int (Int32.ofNat len)), .val .null, .unset] [])) rfl (hb hbytes d27)
  have hh5 := q5.trans hh3
  have c6 : Steps p.tables e below (s₁.setTop (entryFrame m #[.ref a, .ref b, .int (Int32.ofNat o), .int (Int32.ofNat len), .null] 6)) (T5.setTop (mkF m 30 #[.val (.ref a), .val (.ref b), .val (.int (Int32.ofNat o)), .val (.int (Int32.ofNat len)), .val .null, .unset] [.int z])) := c4.trans (st5 _ (Steps.refl _))
  have c7 : Steps p.tables e below (s₁.setTop (entryFrame m #[.ref a, .ref b, .int (Int32.ofNat o), .int (Int32.ofNat len), .null] 6)) (T5.setTop (mkF m 36 #[.val (.ref a), .val (.ref b), .val (.int (Int32.ofNat o)), .val (.int (Int32.ofNat len)), .val .null, .unset] [.int (Int32.ofNat len), .int (Int32.ofNat o), .ref b])) := c6.trans (by
    refine XS.ifNo X5.here hexec rfl (hb hbytes d30) rfl (i0_eq_f hz) ?_
    refine XS.aloadN X5.here hexec rfl (hb hbytes d33) rfl rfl ?_
    refine XS.iloadN X5.here hexec rfl (hb hbytes d34) rfl ?_
    refine XS.iloadN X5.here hexec rfl (hb hbytes d35) rfl ?_
    exact Steps.refl _)
  obtain ⟨v8, T8, X8, E8, g8⟩ := X5.callS hexec (Cmp3.law l b A o len) hown (wks W (staticW "java/lang/String" 177 Cmp3.yN)) (wk W Cmp3.tab) (W := 0) (Nat.le_of_ble_eq_true rfl) (Nat.le_of_ble_eq_true rfl) (Nat.le_refl _) (by show 0 + len ≤ len; omega) (g := (mkF m 36 #[.val (.ref a), .val (.ref b), .val (.int (Int32.ofNat o)), .val (.int (Int32.ofNat len)), .val .null, .unset] [.int (Int32.ofNat len), .int (Int32.ofNat o), .ref b])) rfl (by rw [hml]; rfl) c7 (argsL := [.ref b, .int (Int32.ofNat o), .int (Int32.ofNat len)]) (rest := []) rfl rfl (by show 2 * 0 + 0 ≤ _; decide) (hb hbytes d36) (⟨rfl, hA.mv X5.warmed.alike hh5, l1, l2, hp⟩)
  obtain ⟨e8, z8⟩ := E8
  obtain ⟨rfl, N, n1, n2, n3, n4, n5, n6⟩ := NewArr.mv _ T5 s _ _ hh5.symm (Vm.Alike.refl _) rfl e8
  rw [hh5] at z8
  have hB1 := hB.keep X8.warmed.alike (n6 _ _ hB.1)
  have hne : s.heap.size ≠ a := (Nat.ne_of_lt (Array.getElem?_eq_some_iff.mp hB.1).1).symm
  have c9 : Steps p.tables e below (s₁.setTop (entryFrame m #[.ref a, .ref b, .int (Int32.ofNat o), .int (Int32.ofNat len), .null] 6)) (T8.setTop (mkF m 39 #[.val (.ref a), .val (.ref b), .val (.int (Int32.ofNat o)), .val (.int (Int32.ofNat len)), .val .null, .unset] [.ref s.heap.size])) := g8
  have c10 : Steps p.tables e below (s₁.setTop (entryFrame m #[.ref a, .ref b, .int (Int32.ofNat o), .int (Int32.ofNat len), .null] 6)) (T8.setTop (mkF m 45 #[.val (.ref a), .val (.ref b), .val (.int (Int32.ofNat o)), .val (.int (Int32.ofNat len)), .val .null, .val (.ref s.heap.size)] [.int (Int32.ofNat N.slots.size), .ref s.heap.size, .ref a])) := by
    have hc : Steps p.tables e below (s₁.setTop (entryFrame m #[.ref a, .ref b, .int (Int32.ofNat o), .int (Int32.ofNat len), .null] 6)) (T8.setTop (mkF m 45 #[.val (.ref a), .val (.ref b), .val (.int (Int32.ofNat o)), .val (.int (Int32.ofNat len)), .val .null, .val (.ref s.heap.size)] [.int (Int32.ofNat len), .ref s.heap.size, .ref a])) := c9.trans (by
      refine XS.astore X8.here hexec rfl (hb hbytes d39) rfl rfl rfl ?_
      refine XS.aloadN X8.here hexec rfl (hb hbytes d41) rfl rfl ?_
      refine XS.aload X8.here hexec rfl (hb hbytes d42) rfl rfl ?_
      refine XS.iloadN X8.here hexec rfl (hb hbytes d44) rfl ?_
      exact Steps.refl _)
    rw [n4]; exact hc
  obtain ⟨v11, T11, X11, E11, g11⟩ := X8.callS hexec (CodL.law l s.heap.size N) hown (wks W (staticW "java/lang/String" 47 CodL.yN)) (wk W CodL.tab) (W := 1) (Nat.le_of_ble_eq_true rfl) (Nat.le_of_ble_eq_true rfl) (Nat.le_refl _) (by show 0 + len + 0 ≤ len; omega) (g := (mkF m 45 #[.val (.ref a), .val (.ref b), .val (.int (Int32.ofNat o)), .val (.int (Int32.ofNat len)), .val .null, .val (.ref s.heap.size)] [.int (Int32.ofNat N.slots.size), .ref s.heap.size, .ref a])) rfl (by rw [hml]; rfl) c10 (argsL := [.ref s.heap.size, .int (Int32.ofNat N.slots.size)]) (rest := [.ref a]) rfl rfl (by show 2 * 0 + (1 + 0) ≤ _; decide) (hb hbytes d45) (⟨rfl, n1⟩)
  obtain ⟨rfl, q11⟩ := E11
  have hB11 := hB1.mv (X8.warmed.alike.symm.trans X11.warmed.alike) q11
  have c12 : Steps p.tables e below (s₁.setTop (entryFrame m #[.ref a, .ref b, .int (Int32.ofNat o), .int (Int32.ofNat len), .null] 6)) (T11.setTop (mkF m 48 #[.val (.ref a), .val (.ref b), .val (.int (Int32.ofNat o)), .val (.int (Int32.ofNat len)), .val .null, .val (.ref s.heap.size)] [.int 0, .ref a])) := g11
  obtain ⟨T13, X13, p13, bl13, sl13, st13⟩ := X11.finit hexec hown (wk W (.fieldLink "java/lang/String" 15 "java/lang/String" "coder" "B")) (Or.inr ⟨_, (wk W (.laysFinal "java/lang/String" "java/lang/String" "coder" "B"))⟩) (Or.inl ⟨rfl, hnm⟩) f2 (Or.inl rfl) hB11 (t := .byte) (by decide +kernel) rfl (g := (mkF m 48 #[.val (.ref a), .val (.ref b), .val (.int (Int32.ofNat o)), .val (.int (Int32.ofNat len)), .val .null, .val (.ref s.heap.size)] [.int 0, .ref a])) rfl (rest := []) rfl (hb hbytes d48)
  have c14 : Steps p.tables e below (s₁.setTop (entryFrame m #[.ref a, .ref b, .int (Int32.ofNat o), .int (Int32.ofNat len), .null] 6)) (T13.setTop (mkF m 54 #[.val (.ref a), .val (.ref b), .val (.int (Int32.ofNat o)), .val (.int (Int32.ofNat len)), .val .null, .val (.ref s.heap.size)] [.ref s.heap.size, .ref a])) := (c12.trans (st13 _ (Steps.refl _))).trans (by
    refine XS.aloadN X13.here hexec rfl (hb hbytes d51) rfl rfl ?_
    refine XS.aload X13.here hexec rfl (hb hbytes d52) rfl rfl ?_
    exact Steps.refl _)
  obtain ⟨T15, X15, p15, bl15, sl15, st15⟩ := X13.finit hexec hown (wk W (.fieldLink "java/lang/String" 9 "java/lang/String" "value" "[B")) (Or.inr ⟨_, (wk W (.laysFinal "java/lang/String" "java/lang/String" "value" "[B"))⟩) (Or.inl ⟨rfl, hnm⟩) f1 (Or.inl rfl) bl13 (t := (.array .byte)) (by decide +kernel) rfl (g := (mkF m 54 #[.val (.ref a), .val (.ref b), .val (.int (Int32.ofNat o)), .val (.int (Int32.ofNat len)), .val .null, .val (.ref s.heap.size)] [.ref s.heap.size, .ref a])) rfl (rest := []) rfl (hb hbytes d54)
  have c16 : Steps p.tables e below (s₁.setTop (entryFrame m #[.ref a, .ref b, .int (Int32.ofNat o), .int (Int32.ofNat len), .null] 6)) (T15.setTop (mkF m 57 #[.val (.ref a), .val (.ref b), .val (.int (Int32.ofNat o)), .val (.int (Int32.ofNat len)), .val .null, .val (.ref s.heap.size)] [])) := c14.trans (st15 _ (Steps.refl _))
  have ap := apart (Or.inr ⟨_, (wk W (.laysFinal "java/lang/String" "java/lang/String" "value" "[B"))⟩) (Or.inr ⟨_, (wk W (.laysFinal "java/lang/String" "java/lang/String" "coder" "B"))⟩) f1 f2 (t₁ := .array .byte) (t₂ := .byte) (by decide +kernel) (by decide +kernel) (by decide)
  have al := X8.warmed.alike.symm.trans X15.warmed.alike
  have n7 : T11.heap[s.heap.size]? = some N := by rw [q11]; exact n1.1
  exact ⟨T15, none, _, _, _, X15, by simp, rfl, by omega, (fun _ => rfl), ⟨rfl, _, N, bl15, ((Same.refl D _).set _ (by simp)).set _ (by simp), sl15, (Cell.slots_setSlot_ne _ ap).trans sl13, n1.keep al (p15.other hne (p13.other hne n7)), n2, by rw [al.findClass]; exact n3, n4, n5, fun y c h1 h2 => p15.other h1 (p13.other h1 (by rw [q11]; exact n6 y c h2)), by rw [p15.2.2, p13.2.2, q11]; exact z8⟩, fun fs hl => c16.trans (X15.returnOut hexec hret (hb hbytes d57) hl)⟩
end New4
namespace New1
def yN : MethodName := ⟨"java/lang/String", "<init>", "([C)V"⟩
abbrev yB : ByteArray := jdk_42_method_3_code
theorem d0 : decode yB 0 = .ok (.aload_n 0, 1) := by decide +kernel
theorem d1 : decode yB 1 = .ok (.aload_n 1, 1) := by decide +kernel
theorem d2 : decode yB 2 = .ok (.iconst 0, 1) := by decide +kernel
theorem d3 : decode yB 3 = .ok (.aload_n 1, 1) := by decide +kernel
theorem d4 : decode yB 4 = .ok (.arraylength, 1) := by decide +kernel
theorem d5 : decode yB 5 = .ok (.aconst_null, 1) := by decide +kernel
theorem d6 : decode yB 6 = .ok (.invokespecial 27, 3) := by decide +kernel
theorem d9 : decode yB 9 = .ok (.return_, 1) := by decide +kernel
def site : List Cond := [New4.tab] ++ initW "java/lang/String" 27 New4.yN
def tab : Cond := tabOf yN yB 2 none site
def P (a : Addr) (D : Cell) (fV fC : Field) (b : Addr) (A : Cell) (z : Int32) (args : Array Value) (s : State) : Prop := args = #[.ref a, .ref b] ∧ Blank "java/lang/String" a D s ∧ Found "java/lang/String" "value" "[B" fV s ∧ Found "java/lang/String" "coder" "B" fC s ∧ Ch b A s ∧ StaticIs s "java/lang/String" "COMPACT_STRINGS" "Z" (.int z) ∧ ¬ z = 0 ∧ 0 < A.slots.size ∧ A.slots.size ≤ 536870912 ∧ ∀ i, i < A.slots.size → ¬ 255 < cv A i
def E (a : Addr) (D : Cell) (fV fC : Field) (A : Cell) (r : Option Value) (s u : State) : Prop := Got a D fV fC A 0 A.slots.size r s u
/-- new String(chars), not empty, no char above 255: a Latin-1 String of their low bytes -/
theorem law (l : Launch) (a : Addr) (D : Cell) (fV fC : Field) (b : Addr) (A : Cell) (z : Int32) : Law l yN 2 1 3 52 yB 2 none site (P a D fV fC b A z) (E a D fV fC A) [⟨a, fC.slot⟩, ⟨a, fV.slot⟩] 1 A.slots.size := by
  refine Law.of_walk (plainFor_of_name (by decide +kernel)) (by decide +kernel) (by decide +kernel) (by decide) (fun _ _ h => by rw [h.1]; rfl) (fun _ U U' hal hh h => ⟨h.1, h.2.1.mv hal hh, h.2.2.1.al hal, h.2.2.2.1.al hal, h.2.2.2.2.1.mv hal hh, h.2.2.2.2.2.1.there hal hh, h.2.2.2.2.2.2⟩) (fun r U U' V V' h1 hal h2 h => Got.mv r U U' V V' h1 hal h2 h) ?_
  intro p e s m args below meth c s₁ X0 hexec hbytes hml hret hlk hnm hown hh0 W hP
  obtain ⟨rfl, hB, f1, f2, hA, s1, hz, l0, l2, hp⟩ := hP
  have c1 : Steps p.tables e below (s₁.setTop (entryFrame m #[.ref a, .ref b] 2)) (s₁.setTop (mkF m 0 #[.val (.ref a), .val (.ref b)] [])) := entry rfl
  have c2 : Steps p.tables e below (s₁.setTop (entryFrame m #[.ref a, .ref b] 2)) (s₁.setTop (mkF m 6 #[.val (.ref a), .val (.ref b)] [.null, .int (Int32.ofNat A.slots.size), .int 0, .ref b, .ref a])) := c1.trans (by
    refine XS.aloadN X0.here hexec rfl (hb hbytes d0) rfl rfl ?_
    refine XS.aloadN X0.here hexec rfl (hb hbytes d1) rfl rfl ?_
    refine iconstV X0.here hexec rfl 0 (hb hbytes d2) (by decide) ?_
    refine XS.aloadN X0.here hexec rfl (hb hbytes d3) rfl rfl ?_
    refine X0.alen hexec (hA.1.mv X0.warmed.alike hh0) rfl rfl (hb hbytes d4) ?_
    refine XS.aconstNull X0.here hexec rfl (hb hbytes d5) ?_
    exact Steps.refl _)
  obtain ⟨v3, T3, X3, E3, g3⟩ := X0.callN hexec (New4.law l a D fV fC b A z 0 A.slots.size) rfl hown (wks W (initW "java/lang/String" 27 New4.yN)) (W New4.tab (by simp only [site, List.mem_cons, List.mem_append, true_or, or_true])) (W := 0) (Nat.le_of_ble_eq_true rfl) (Nat.le_of_ble_eq_true rfl) (Nat.le_refl _) (by show 0 + A.slots.size ≤ A.slots.size; omega) (g := (mkF m 6 #[.val (.ref a), .val (.ref b)] [.null, .int (Int32.ofNat A.slots.size), .int (Int32.ofNat 0), .ref b, .ref a])) rfl (by rw [hml]; rfl) c2 (argsL := [.ref b, .int (Int32.ofNat 0), .int (Int32.ofNat A.slots.size), .null]) (rest := []) rfl rfl (by show 2 * 0 + 0 ≤ _; decide) (hb hbytes d6) (⟨rfl, hB.mv X0.warmed.alike hh0, f1.al X0.warmed.alike, f2.al X0.warmed.alike, hA.mv X0.warmed.alike hh0, s1.there X0.warmed.alike hh0, hz, l0, by omega, l2, fun i hi => by rw [Nat.zero_add]; exact hp i hi⟩)
  have e0 := Got.mv _ s₁ s _ _ hh0.symm (Vm.Alike.refl _) rfl E3
  obtain rfl := e0.1
  have c4 : Steps p.tables e below (s₁.setTop (entryFrame m #[.ref a, .ref b] 2)) (T3.setTop (mkF m 9 #[.val (.ref a), .val (.ref b)] [])) := g3
  exact ⟨T3, none, _, _, _, X3, by simp, rfl, by omega, (fun _ => rfl), e0, fun fs hl => c4.trans (X3.returnOut hexec hret (hb hbytes d9) hl)⟩
theorem pays {l : Launch} {R : Room} {p : Program} {e : Env} {below : List Frame} {s : State} {sargs : Array Value} {len W : Nat} (a : Addr) (D : Cell) (fV fC : Field) (b : Addr) (A : Cell) (z : Int32) (htab : tab.before sargs s = true) (hfr : 4 ≤ R.frames) (hlo : W + 65 ≤ R.locals) :
    Back l R p e below s sargs yN len W (fun A₁ a₁ => A₁.cells + 1 ≤ R.cells ∧ A₁.slots + A.slots.size ≤ R.slots ∧ P a D fV fC b A z a₁ A₁.U) (fun A₁ _ v₁ B₁ => E a D fV fC A v₁ A₁.U B₁.U ∧ B₁.locs = A₁.locs ++ [⟨a, fC.slot⟩, ⟨a, fV.slot⟩] ∧ B₁.cells = A₁.cells + 1 ∧ B₁.slots = A₁.slots + A.slots.size) :=
  (law l a D fV fC b A z).pays htab hfr (by omega)
end New1
/-- the byte, read back as charAt reads it, is the char -/
theorem lo8_mask {x : Int32} (h0 : ¬ x < 0) (h1 : ¬ 255 < x) : lo8 x &&& 255 = x := by
  have t : ∀ k : Fin 256, lo8 (Int32.ofNat k.val) &&& 255 = Int32.ofNat k.val := by decide +kernel
  rw [Int32.lt_iff_toInt_lt] at h0 h1
  have e0 : (0 : Int32).toInt = 0 := rfl
  have e1 : (255 : Int32).toInt = 255 := rfl
  obtain ⟨k, hk⟩ : ∃ k : Nat, x.toInt = k := ⟨x.toInt.toNat, by omega⟩
  have hx : x = Int32.ofNat k := Int32.toInt_inj.mp (by rw [hk, Int32.toInt_ofNat_small (by omega)])
  rw [hx]
  exact t ⟨k, by omega⟩
end StrChars
namespace StrChars.Road
open Jvm Sem ClassFile Op Lib Jvm.Stand Jvm.Free Jvm.Free.XT
open Jvm.Lib.Cold (StaticIs)
abbrev ST : String := "java/lang/String"
/-- every table word that New1's law asks, flat -/
abbrev words : List Jvm.Cond := [.code New1.yN New1.yB 2 none, .initialized ST, .methodLink ST 27 New4.yN, .instanceMethod New4.yN,
  .code New4.yN New4.yB 6 none, .fieldLink ST 38 ST "COMPACT_STRINGS" "Z", .laysFinal ST ST "value" "[B", .fieldLink ST 9 ST "value" "[B", .laysFinal ST ST "coder" "B", .fieldLink ST 15 ST "coder" "B",
  .methodLink ST 1 Lib.objectInit, .instanceMethod Lib.objectInit, .code Lib.objectInit ⟨#[0xb1]⟩ 1 none, .methodLink ST 177 Cmp3.yN, .static Cmp3.yN, .methodLink ST 47 CodL.yN, .static CodL.yN,
  .code Cmp3.yN Cmp3.yB 6 (some (.array .byte)), .initialized U16, .arrayClass .byte, .methodLink U16 115 Cmp5.yN, .static Cmp5.yN, .code Cmp5.yN Cmp5.yB 7 (some .int), .code CodL.yN CodL.yB 2 (some .byte)]
theorem tab_of {a : Array Value} {s : State} (h : ∀ w ∈ words, w.before a s = true) : New1.tab.before a s = true := by
  have h5 : Cmp5.tab.before a s = true := unparts (wk h (.code Cmp5.yN Cmp5.yB 7 (some .int))) (wks h (.initialized Cmp5.yN.cls :: Cmp5.site))
  have hc : CodL.tab.before a s = true := unparts (wk h (.code CodL.yN CodL.yB 2 (some .byte))) (wks h (.initialized CodL.yN.cls :: CodL.site))
  have q5 : ∀ w ∈ Cmp5.tab :: words, w.before a s = true := fun w hw => (List.mem_cons.mp hw).elim (fun e => e ▸ h5) (h w)
  have h3 : Cmp3.tab.before a s = true := unparts (wk q5 (.code Cmp3.yN Cmp3.yB 6 (some (.array .byte)))) (wks q5 (.initialized Cmp3.yN.cls :: Cmp3.site))
  have q3 : ∀ w ∈ Cmp3.tab :: CodL.tab :: words, w.before a s = true := fun w hw => (List.mem_cons.mp hw).elim (fun e => e ▸ h3) fun hw => (List.mem_cons.mp hw).elim (fun e => e ▸ hc) (h w)
  have h4 : New4.tab.before a s = true := unparts (wk q3 (.code New4.yN New4.yB 6 none)) (wks q3 (.initialized New4.yN.cls :: New4.site))
  have q4 : ∀ w ∈ New4.tab :: words, w.before a s = true := fun w hw => (List.mem_cons.mp hw).elim (fun e => e ▸ h4) (h w)
  exact unparts (wk q4 (.code New1.yN New1.yB 2 none)) (wks q4 (.initialized New1.yN.cls :: New1.site))
/-- the words ride from the start Z to the walk's own state -/
theorem moved {Z s : State} {a0 args : Array Value} (hZ : Z.Warmed39 s.vm) (hw : ∀ d ∈ words, d.before a0 Z = true) : ∀ d ∈ words, d.before args s = true := fun d hd => by
  have q := hw d hd
  have t : ∀ d ∈ words, d = .arrayClass .byte ∨ (d.onTables && d.keepsFace) = true := by decide +kernel
  rcases t d hd with rfl | t
  · exact RoadKit.mvA hZ q
  · exact RoadKit.mv hZ q t
/-- WHAT COMES BACK, over the tables of the start Z: h the heap at the call, h' behind it -/
def Q (Z : State) (x : Addr) (A : Cell) (h : Heap) (v : Option Value) (h' : Heap) (L : List Loc) : Prop := v = none ∧ (∀ y ∈ L, y.base = x) ∧ RoadKit.Keep h h' [x] ∧ h'.size = h.size + 1 ∧ RoadKit.Exa Z h' x ST ∧ RoadKit.Fld Z h' x ST "value" "[B" (.ref h.size) ∧ RoadKit.Fld Z h' x ST "coder" "B" (.int 0) ∧
  (∃ V : Cell, RoadKit.Arr Z h' h.size V .byte ∧ V.vm = .none ∧ Z.vm.findClass "[B" = some V.cls ∧ V.slots.size = A.slots.size ∧ ∀ j, j < A.slots.size → V.slots[j]? = some (.int (lo8 (cv A j)))) ∧
  ∀ (O n d : String) (w : Value), RoadKit.Fld Z h x O n d w → RoadKit.slotOf Z O n d ≠ RoadKit.slotOf Z ST "value" "[B" → RoadKit.slotOf Z O n d ≠ RoadKit.slotOf Z ST "coder" "B" → RoadKit.Fld Z h' x O n d w
/-- **new String(chars) AT A CALL, IN THE ROAD'S FORM**: for specialBack behind newO: x the fresh String, b the char[] with the cell A -/
theorem back {p : Program} {l : Launch} {e : Env} {R : Room} {s : State} {args : Array Value} {below : List Frame} {len W : Nat} {Z : State} {a0 : Array Value} {h : Heap} (hZ : Z.Warmed39 s.vm) (hw : ∀ d ∈ words, d.before a0 Z = true) {kI : Nat} (wi : (Jvm.Cond.instantiable ST kI).before a0 Z = true)
    {x b : Addr} {A : Cell} {z : Int32} {v0 c0 : Value} (E : RoadKit.Exa Z h x ST) (V : RoadKit.Fld Z h x ST "value" "[B" v0) (C : RoadKit.Fld Z h x ST "coder" "B" c0) (K : RoadKit.Arr Z h b A .char) (hty : Typed .char A) (S : RoadKit.Sta Z h ST "COMPACT_STRINGS" "Z" (.int z)) (hz : ¬ z = 0)
    (l0 : 0 < A.slots.size) (l2 : A.slots.size ≤ 536870912) (hp : ∀ i, i < A.slots.size → ¬ 255 < cv A i) (hfr : 4 ≤ R.frames) (hlo : W + 65 ≤ R.locals) :
    Back l R p e below s args New1.yN len W (fun P a => a = #[.ref x, .ref b] ∧ P.U.heap = h ∧ P.cells + 1 ≤ R.cells ∧ P.slots + A.slots.size ≤ R.slots)
      (fun P _ v B => ∃ L, Q Z x A h v B.U.heap L ∧ B.locs = P.locs ++ L ∧ B.cells = P.cells + 1 ∧ B.slots = P.slots + A.slots.size) := by
  intro m meth c P g ig mk a X hg hsize hdg hW hn hp'
  obtain ⟨rfl, rfl, r1, r2⟩ := hp'
  have al : Z.vm.Alike P.U.vm := hZ.alike.trans X.warmed.alike
  obtain ⟨D, cfV, kV, iV, fV, hD, gV, stV, knV, obV, asV, slV⟩ := id V
  obtain ⟨D', cfC, kC, iC, fC, hD', gC, stC, -, -, asC, slC⟩ := id C
  cases hD.symm.trans hD'
  obtain ⟨D2, kD, e1, e2, e3, e4, e5⟩ := id E
  cases hD.symm.trans e1
  obtain ⟨c2, k2, i1, i2, i3, -⟩ := Cond.instantiable_spec wi
  cases e2.symm.trans i1
  cases e3.symm.trans i2
  obtain ⟨kU, u1, u2⟩ := al.2.2 _ _ e3
  have hB : Blank ST x D P.U := ⟨hD, ⟨knV, fun q hq => by rw [hq] at obV; cases obV⟩, by rw [al.findClass]; exact e2, kU, u1, by rw [u2]; exact i3, by rw [u2]; exact e5 i3⟩
  have F1 : Found ST "value" "[B" fV P.U := ⟨SBG.found_only al ⟨cfV, kV, iV, gV⟩, stV⟩
  have F2 : Found ST "coder" "B" fC P.U := ⟨SBG.found_only al ⟨cfC, kC, iC, gC⟩, stC⟩
  have hA : Ch b A P.U := ⟨⟨K.1, State.isArrayOf_alike al K.2.1, K.2.2, by omega⟩, hty⟩
  have hS : StaticIs P.U ST "COMPACT_STRINGS" "Z" (.int z) := by
    obtain ⟨cfS, iS, kS, fS, st, cS, t1, t2, t3, t4, t5, t6, t7⟩ := S
    exact StaticIs.there (s := { Z with heap := P.U.heap }) ⟨cfS, iS, kS, fS, st, cS, t1, t2, t3, t4, t5, (fun q => by rw [q] at t6; cases t6), t7⟩ al rfl
  obtain ⟨v, B, X', ⟨⟨hv, E', V', q1, q2, q3, q4, q5, q6, q7, q8, q9, q10, q11⟩, hl, hc, hs⟩, st⟩ := New1.pays x D fV fC b A z (tab_of (moved hZ hw)) hfr hlo m meth c P g ig mk _ X hg hsize hdg hW hn ⟨r1, r2, rfl, hB, F1, F2, hA, hS, hz, l0, l2, hp⟩
  have al' : Z.vm.Alike B.U.vm := hZ.alike.trans X'.warmed.alike
  have hsz : E'.slots.size = D.slots.size := by
    obtain ⟨-, -, -, kB, w1, w2, w3⟩ := q1
    obtain ⟨kB', y1, y2⟩ := al'.2.2 _ _ e3
    rw [q2.2.1] at w1
    cases w1.symm.trans y1
    rw [w3, e5 i3, y2]
  refine ⟨v, B, X', ⟨_, ⟨hv, ?_, ⟨by omega, fun y cy hy hn' => q10 y cy (by simpa using hn') hy, fun y cy hy => ?_⟩, q11, ⟨E', _, q1.1, by rw [q2.2.1]; exact e2, by rw [q2.2.1]; exact e3, by rw [q2.1]; exact obV, fun _ => by rw [hsz]; exact e5 i3⟩,
    ⟨E', cfV, kV, iV, fV, q1.1, gV, stV, by rw [q2.1]; exact knV, by rw [q2.1]; exact obV, by rw [q2.2.1]; exact asV, q3⟩, ⟨E', cfC, kC, iC, fC, q1.1, gC, stC, by rw [q2.1]; exact knV, by rw [q2.1]; exact obV, by rw [q2.2.1]; exact asC, q4⟩,
    ⟨V', ⟨q5.1, State.isArrayOf_alike al'.symm q5.2.1, q5.2.2.1⟩, q6, by rw [← al'.findClass]; exact q7, q8, fun j hj => by have := q9 j hj; rwa [Nat.zero_add] at this⟩, fun O n d w F n1 n2 => ?_⟩, hl, hc, hs⟩, st⟩
  · intro y hy
    simp only [List.mem_cons, List.not_mem_nil, or_false] at hy
    rcases hy with rfl | rfl <;> rfl
  · by_cases q : y = x
    · subst q
      cases hD.symm.trans hy
      exact ⟨E', q1.1, q2.2.1, q2.1, hsz⟩
    · exact ⟨cy, q10 y cy q hy, rfl, rfl, rfl⟩
  · obtain ⟨D3, cf, k, i, f, g1, g2, g3, g4, g5, g6, g7⟩ := F
    cases hD.symm.trans g1
    simp only [RoadKit.slotOf, g2, gV, gC, Option.map_some, Option.getD_some] at n1 n2
    exact ⟨E', cf, k, i, f, q1.1, g2, g3, by rw [q2.1]; exact g4, by rw [q2.1]; exact g5, by rw [q2.2.1]; exact g6, by rw [q2.2.2 f.slot (by simp [n1, n2])]; exact g7⟩
end StrChars.Road
namespace StrChars.Road
open Jvm Sem ClassFile Op Lib Jvm.Stand Jvm.Free Jvm.Free.XT
/-- WHAT COMES BACK, the byte[] as a list of values -/
def QA (Z : State) (x : Addr) (zn : Int32) (cs : List Int32) (h : Heap) (v : Option Value) (h' : Heap) (L : List Loc) : Prop := v = none ∧ (∀ y ∈ L, y.base = x) ∧ RoadKit.Keep h h' [x] ∧ h'.size = h.size + 1 ∧ RoadKit.Exa Z h' x ST ∧ RoadKit.Fld Z h' x ST "value" "[B" (.ref h.size) ∧ RoadKit.Fld Z h' x ST "coder" "B" (.int 0) ∧
  (∃ kb, Z.vm.findClass "[B" = some kb ∧ RoadKit.Arv Z h' h.size kb .byte zn (cs.map fun c => .int (lo8 c)) (.int 0)) ∧
  ∀ (O n d : String) (w : Value), RoadKit.Fld Z h x O n d w → RoadKit.slotOf Z O n d ≠ RoadKit.slotOf Z ST "value" "[B" → RoadKit.slotOf Z O n d ≠ RoadKit.slotOf Z ST "coder" "B" → RoadKit.Fld Z h' x O n d w
/-- **new String(chars) AT A CALL, THE ARRAYS AS LISTS**: the char[] at b holds cs, not empty, no char above 255 -/
theorem backArv {p : Program} {l : Launch} {e : Env} {R : Room} {s : State} {args : Array Value} {below : List Frame} {len W : Nat} {Z : State} {a0 : Array Value} {h : Heap} (hZ : Z.Warmed39 s.vm) (hw : ∀ d ∈ words, d.before a0 Z = true) {kI : Nat} (wi : (Jvm.Cond.instantiable ST kI).before a0 Z = true)
    {x b : Addr} {k : ClassId} {zn z : Int32} {cs : List Int32} {dv v0 c0 : Value} (E : RoadKit.Exa Z h x ST) (V : RoadKit.Fld Z h x ST "value" "[B" v0) (C : RoadKit.Fld Z h x ST "coder" "B" c0) (K : RoadKit.Arv Z h b k .char zn (cs.map Value.int) dv) (S : RoadKit.Sta Z h ST "COMPACT_STRINGS" "Z" (.int z)) (hz : ¬ z = 0)
    (hlen : zn.toNatClampNeg = cs.length) (h0 : 0 < cs.length) (hbig : cs.length ≤ 536870912) (hall : ∀ c ∈ cs, ¬ 255 < c) (hfr : 4 ≤ R.frames) (hlo : W + 65 ≤ R.locals) :
    Back l R p e below s args New1.yN len W (fun P a => a = #[.ref x, .ref b] ∧ P.U.heap = h ∧ P.cells + 1 ≤ R.cells ∧ P.slots + cs.length ≤ R.slots)
      (fun P _ v B => ∃ L, QA Z x zn cs h v B.U.heap L ∧ B.locs = P.locs ++ L ∧ B.cells = P.cells + 1 ∧ B.slots = P.slots + cs.length) := by
  obtain ⟨A, K1, K2, K3, K4, K5, K6⟩ := K
  have e : A.slots.size = cs.length := K3.trans hlen
  have hat : ∀ (i : Nat) (hi : i < cs.length), A.slots[i]? = some (.int cs[i]) := fun i hi => by rw [K5 i (by omega)]; simp [List.getD_eq_getElem?_getD, hi]
  have hcv : ∀ (i : Nat) (hi : i < cs.length), cv A i = cs[i] := fun i hi => by unfold cv; rw [hat i hi]
  have hty : Typed .char A := fun i v hv => by
    have hi : i < A.slots.size := (Array.getElem?_eq_some_iff.mp hv).1
    have q := K5 i hi
    rw [hv] at q
    rw [Option.some.inj q]
    exact K6 i hi
  refine Back.mono (back hZ hw wi E V C K1 hty S hz (by omega) (by omega) (fun i hi => by rw [hcv i (by omega)]; exact hall _ (List.getElem_mem _)) hfr hlo) (fun P a hp => ⟨hp.1, hp.2.1, hp.2.2.1, by rw [e]; exact hp.2.2.2⟩) (fun P a v B hp hq => ?_)
  obtain ⟨L, ⟨q1, q2, q3, q4, q5, q6, q7, ⟨V', v1, v2, v3, v4, v5⟩, q9⟩, hl, hc, hs⟩ := hq
  refine ⟨L, ⟨q1, q2, q3, q4, q5, q6, q7, ⟨V'.cls, v3, V', v1, rfl, by rw [v4, e, hlen], K4, fun i hi => ?_, fun i hi => ?_⟩, q9⟩, hl, hc, by rw [hs, e]⟩
  · have hi' : i < cs.length := by omega
    rw [v5 i (by omega), hcv i hi']; simp [List.getD_eq_getElem?_getD, hi']
  · have hi' : i < cs.length := by omega
    simp only [List.getD_eq_getElem?_getD, List.getElem?_map, List.getElem?_eq_getElem hi', Option.map_some, Option.getD_some]
    exact fits_lo8 _
end StrChars.Road
namespace StrChars.Road
open Jvm Sem ClassFile Op Lib Jvm.Stand Jvm.Free Jvm.Free.XT
/-- WHAT COMES BACK, in the writer's own shape -/
def QV (Z : State) (x : Addr) (N : Int32) (bs : List Int32) (h : Heap) (n0 : Nat) (v : Option Value) (h' : Heap) (L : List Loc) : Prop := v = none ∧ RoadKit.Fr n0 L ∧ RoadKit.Keep h h' [x] ∧ RoadKit.Exa Z h' x ST ∧ RoadKit.Fld Z h' x ST "coder" "B" (.int 0) ∧
  ∃ (t : Addr) (kb : ClassId), n0 ≤ t ∧ h.size ≤ t ∧ ¬ t = x ∧ RoadKit.Fld Z h' x ST "value" "[B" (.ref t) ∧ RoadKit.Arv Z h' t kb .byte N (bs.map Value.int) (.int 0)
/-- **new String(chars) AT A CALL, FOR THE WRITER**: a char[] of n known ints, each 0 to 255 -/
theorem backV {p : Program} {l : Launch} {e : Env} {R : Room} {s : State} {args : Array Value} {below : List Frame} {len W : Nat} {Z : State} {a0 : Array Value} {h : Heap} (hZ : Z.Warmed39 s.vm) (hw : ∀ d ∈ words, d.before a0 Z = true) {kI : Nat} (wi : (Jvm.Cond.instantiable ST kI).before a0 Z = true)
    {x b : Addr} {kC : ClassId} {cs bs : List Int32} {d v0 c0 : Value} {z N : Int32} {n n0 : Nat} (hx0 : n0 ≤ x) (hh0 : n0 ≤ h.size) (E : RoadKit.Exa Z h x ST) (V : RoadKit.Fld Z h x ST "value" "[B" v0) (C : RoadKit.Fld Z h x ST "coder" "B" c0) (K : RoadKit.Arv Z h b kC .char N (cs.map Value.int) d) (S : RoadKit.Sta Z h ST "COMPACT_STRINGS" "Z" (.int z)) (hz : ¬ z = 0)
    (hn : cs.length = n) (hN : N = Int32.ofNat n) (l0 : 0 < n) (l2 : n ≤ 4000) (hp : ∀ c ∈ cs, ¬ c < 0 ∧ ¬ (255 : Int32) < c) (hb : bs = cs.map (fun c => c.toInt8.toInt32)) (hfr : 4 ≤ R.frames) (hlo : W + 65 ≤ R.locals) :
    Back l R p e below s args (⟨"java/lang/String", "<init>", "([C)V"⟩ : MethodName) len W (fun P a => a = #[.ref x, .ref b] ∧ P.U.heap = h ∧ P.cells + 1 ≤ R.cells ∧ P.slots + n ≤ R.slots)
      (fun P _ v B => ∃ L, QV Z x N bs h n0 v B.U.heap L ∧ B.locs = P.locs ++ L ∧ B.cells = P.cells + 1 ∧ B.slots = P.slots + n) := by
  subst hn hN hb
  refine Back.mono (backArv hZ hw wi E V C K S hz (n32 (by omega)) l0 (by omega) (fun c hc => (hp c hc).2) hfr hlo) (fun P a hp => hp) (fun P a v B hp hq => ?_)
  obtain ⟨L, ⟨q1, q2, q3, q4, q5, q6, q7, ⟨kb, v1, v2⟩, q9⟩, hl, hc, hs⟩ := hq
  exact ⟨L, ⟨q1, fun y hy => by rw [q2 y hy]; exact hx0, q3, q5, q7, h.size, kb, hh0, Nat.le_refl _, Nat.ne_of_gt E.lt, q6, by rw [List.map_map]; exact v2⟩, hl, hc, hs⟩
end StrChars.Road
namespace StrChars
open Jvm Sem ClassFile Op Lib Jvm.Stand Jvm.Free.XT Jvm.Free.ALB Jvm.Free.JM Jvm.Free
open Jvm.Lib.Cold (StaticIs)
def hi8 (x : Int32) : Int32 := lo8 (x >>> ((8 : Int32) &&& 31))
/-- what StringUTF16.getChar makes of two bytes -/
def pairCh (u v : Int32) : Int32 := (((u &&& 255) <<< ((0 : Int32) &&& 31)) ||| ((v &&& 255) <<< ((8 : Int32) &&& 31))).toUInt32.toUInt16.toUInt32.toInt32
theorem lo8_and (x : Int32) : (lo8 x &&& 255).toBitVec.toNat = x.toBitVec.toNat % 256 := by
  have h : (lo8 x).toBitVec = (x.toBitVec.signExtend 8).signExtend 32 := by rw [lo8, Int8.toBitVec_toInt32, Int32.toBitVec_toInt8]
  rw [Int32.toBitVec_and, BitVec.toNat_and, h]
  have e : ((x.toBitVec.signExtend 8).signExtend 32).toNat % 256 = x.toBitVec.toNat % 256 := by
    rw [BitVec.toNat_signExtend]
    have hlt := x.toBitVec.isLt
    simp only [BitVec.toNat_setWidth, BitVec.toNat_signExtend]
    split <;> split <;> omega
  rw [← e]
  exact Nat.and_two_pow_sub_one_eq_mod _ 8
theorem pair_says {c : Int32} (h0 : ¬ c < 0) (h1 : ¬ 65535 < c) : pairCh (lo8 c) (hi8 c) = c := by
  rw [Int32.lt_iff_toInt_lt] at h0 h1
  have e0 : (0 : Int32).toInt = 0 := rfl
  have e1 : (65535 : Int32).toInt = 65535 := rfl
  have hc : c.toInt = c.toBitVec.toNat := by
    have := c.toBitVec.isLt
    have e : c.toInt = c.toBitVec.toInt := rfl
    rw [e] at h0 h1
    rw [e]
    rw [BitVec.toInt_eq_toNat_cond] at h0 h1 ⊢
    split at h0 <;> split <;> omega
  have hn : c.toBitVec.toNat < 65536 := by omega
  have a1 := lo8_and c
  have a2 : (hi8 c &&& 255).toBitVec.toNat = c.toBitVec.toNat / 256 := by
    rw [hi8, lo8_and]
    have e : ((8 : Int32) &&& 31) = 8 := by decide
    rw [e, Int32.toBitVec_shiftRight]
    have e2 : ((8 : Int32).toBitVec.smod 32) = 8#32 := by decide
    rw [e2, BitVec.sshiftRight_eq', BitVec.toNat_sshiftRight_of_msb_false (by rw [BitVec.msb_eq_false_iff_two_mul_lt]; omega)]
    show c.toBitVec.toNat >>> 8 % 256 = _
    rw [Nat.shiftRight_eq_div_pow]
    omega
  unfold pairCh
  apply Int32.toBitVec_inj.mp
  apply BitVec.eq_of_toNat_eq
  have f0 : ((0 : Int32) &&& 31) = 0 := by decide
  have f8 : ((8 : Int32) &&& 31) = 8 := by decide
  rw [f0, f8]
  have g : (((lo8 c &&& 255) <<< (0 : Int32)) ||| ((hi8 c &&& 255) <<< (8 : Int32))).toBitVec.toNat = c.toBitVec.toNat := by
    rw [Int32.toBitVec_or, Int32.toBitVec_shiftLeft, Int32.toBitVec_shiftLeft]
    have s0 : ((0 : Int32).toBitVec.smod 32) = 0#32 := by decide
    have s8 : ((8 : Int32).toBitVec.smod 32) = 8#32 := by decide
    rw [s0, s8, BitVec.toNat_or]
    simp only [BitVec.shiftLeft_eq', BitVec.toNat_shiftLeft, a1, a2]
    show (c.toBitVec.toNat % 256) <<< 0 % 2 ^ 32 ||| (c.toBitVec.toNat / 256) <<< 8 % 2 ^ 32 = _
    rw [Nat.shiftLeft_zero, Nat.mod_eq_of_lt (show c.toBitVec.toNat % 256 < 2 ^ 32 by omega), Nat.mod_eq_of_lt (show (c.toBitVec.toNat / 256) <<< 8 < 2 ^ 32 by rw [Nat.shiftLeft_eq]; omega), Nat.or_comm, ← Nat.shiftLeft_add_eq_or_of_lt (by omega), Nat.shiftLeft_eq]
    omega
  show BitVec.toNat (((((lo8 c &&& 255) <<< (0 : Int32)) ||| ((hi8 c &&& 255) <<< (8 : Int32))).toBitVec.setWidth 16).setWidth 32) = _
  rw [BitVec.toNat_setWidth, BitVec.toNat_setWidth, g]
  omega
end StrChars
namespace StrChars
open Jvm Sem ClassFile Op Lib Jvm.Stand Jvm.Free.XT Jvm.Free.ALB Jvm.Free.JM Jvm.Free
open Jvm.Lib.Cold (StaticIs)
/-- the array's cell V codes the n chars f 0 .. f (n - 1) by the coder cd, as the JDK does: coder 1 just where some char is above 255 -/
def Cod (cd : Int32) (n : Nat) (f : Nat → Int32) (V : Cell) : Prop := (cd = 0 ∧ V.slots.size = n ∧ ∀ j, j < n → V.slots[j]? = some (.int (lo8 (f j))) ∧ ¬ 255 < f j) ∨ (cd = 1 ∧ V.slots.size = 2 * n ∧ (∀ j, j < n → V.slots[2 * j]? = some (.int (lo8 (f j))) ∧ V.slots[2 * j + 1]? = some (.int (hi8 (f j)))) ∧ ∃ j, j < n ∧ 255 < f j)
/-- **x is a String of the n chars f 0 .. f (n - 1)**, Latin-1 or UTF-16; its array at t has the cell V -/
def Txt (x t : Addr) (V : Cell) (cd : Int32) (n : Nat) (f : Nat → Int32) (U : State) : Prop := Exact "java/lang/String" x U ∧ Has x "java/lang/String" "value" "[B" (.ref t) U ∧ Has x "java/lang/String" "coder" "B" (.int cd) U ∧ XT.Arr .byte t V U ∧ Cod cd n f V ∧ ∀ j, j < n → ¬ f j < 0 ∧ ¬ 65535 < f j
theorem Txt.mv {x t : Addr} {V : Cell} {cd : Int32} {n : Nat} {f : Nat → Int32} {U U' : State} (h : Txt x t V cd n f U) (hal : U.vm.Alike U'.vm) (hh : U'.heap = U.heap) : Txt x t V cd n f U' := ⟨h.1.mv hal hh, h.2.1.mv hal hh, h.2.2.1.mv hal hh, h.2.2.2.1.mv hal hh, h.2.2.2.2⟩
end StrChars
namespace StrChars.Road
open Jvm Sem ClassFile Op Lib Jvm.Stand Jvm.Free Jvm.Free.XT
open Jvm.Lib.Cold (StaticIs)
theorem consq {a : Array Value} {s : State} {c : Jvm.Cond} {L : List Jvm.Cond} (h0 : c.before a s = true) (h : ∀ w ∈ L, w.before a s = true) : ∀ w ∈ c :: L, w.before a s = true := fun w hw => (List.mem_cons.mp hw).elim (fun e => e ▸ h0) (h w)
/-- the bytes of the chars cs, low before high -/
def wideBytes : List Int32 → List Value
  | [] => []
  | c :: cs => .int (lo8 c) :: .int (hi8 c) :: wideBytes cs
theorem wide_lo (d : Value) : ∀ (cs : List Int32) (j : Nat), j < cs.length → (wideBytes cs).getD (2 * j) d = .int (lo8 (cs.getD j 0))
  | [], j, h => absurd h (Nat.not_lt_zero j)
  | c :: cs, 0, _ => rfl
  | c :: cs, j + 1, h => by
    have q := wide_lo d cs j (by simpa using h)
    rw [show 2 * (j + 1) = 2 * j + 1 + 1 from by omega]
    simpa [wideBytes] using q
theorem wide_hi (d : Value) : ∀ (cs : List Int32) (j : Nat), j < cs.length → (wideBytes cs).getD (2 * j + 1) d = .int (hi8 (cs.getD j 0))
  | [], j, h => absurd h (Nat.not_lt_zero j)
  | c :: cs, 0, _ => rfl
  | c :: cs, j + 1, h => by
    have q := wide_hi d cs j (by simpa using h)
    rw [show 2 * (j + 1) + 1 = 2 * j + 1 + 1 + 1 from by omega]
    simpa [wideBytes] using q
theorem low_at (d : Value) (cs : List Int32) (j : Nat) (h : j < cs.length) : (cs.map fun c => Value.int (lo8 c)).getD j d = .int (lo8 (cs.getD j 0)) := by
  simp [List.getD_eq_getElem?_getD, h]
/-- an array of N2 bytes vs codes the chars cs by the coder cd -/
def CodA (cs : List Int32) (cd N2 : Int32) (vs : List Value) : Prop := (cd = 0 ∧ N2 = Int32.ofNat cs.length ∧ vs = (cs.map fun c => Value.int (lo8 c)) ∧ ∀ c ∈ cs, ¬ 255 < c) ∨ (cd = 1 ∧ N2 = Int32.ofNat (2 * cs.length) ∧ vs = wideBytes cs ∧ ∃ c ∈ cs, 255 < c)
theorem CodA.cod {cs : List Int32} {cd N2 : Int32} {vs : List Value} {V : Cell} (h : CodA cs cd N2 vs) (hn : 2 * cs.length < 2 ^ 31) (hs : V.slots.size = N2.toNatClampNeg) (hv : RoadKit.Has V vs (.int 0)) : Cod cd cs.length (fun j => cs.getD j 0) V := by
  rcases h with ⟨rfl, rfl, rfl, h⟩ | ⟨rfl, rfl, rfl, c, hc, hw⟩
  · rw [n32 (by omega)] at hs
    exact Or.inl ⟨rfl, hs, fun j hj => ⟨by rw [hv j (by omega), low_at _ _ _ hj], by
      have e : cs.getD j 0 = cs[j] := by simp [List.getD_eq_getElem?_getD, hj]
      show ¬ 255 < cs.getD j 0
      rw [e]; exact h _ (List.getElem_mem _)⟩⟩
  · rw [n32 (by omega)] at hs
    obtain ⟨j, hj, rfl⟩ := List.getElem_of_mem hc
    exact Or.inr ⟨rfl, hs, fun j hj => ⟨by rw [hv _ (by omega), wide_lo _ _ _ hj], by rw [hv _ (by omega), wide_hi _ _ _ hj]⟩, j, hj, by
      have e : cs.getD j 0 = cs[j] := by simp [List.getD_eq_getElem?_getD, hj]
      show 255 < cs.getD j 0
      rw [e]; exact hw⟩
/-- an object of exactly java/lang/String, its two fields found: as the laws ask it -/
theorem strObj {Z U : State} {a0 : Array Value} {kI : Nat} (wi : (Jvm.Cond.instantiable ST kI).before a0 Z = true) (al : Z.vm.Alike U.vm) {x : Addr} {v0 c0 : Value} (E : RoadKit.Exa Z U.heap x ST) (V : RoadKit.Fld Z U.heap x ST "value" "[B" v0) (C : RoadKit.Fld Z U.heap x ST "coder" "B" c0) :
    ∃ (D : Cell) (fV fC : Field), Blank ST x D U ∧ Found ST "value" "[B" fV U ∧ Found ST "coder" "B" fC U ∧ D.slots[fV.slot]? = some v0 ∧ D.slots[fC.slot]? = some c0 ∧ RoadKit.slotOf Z ST "value" "[B" = fV.slot ∧ RoadKit.slotOf Z ST "coder" "B" = fC.slot := by
  obtain ⟨D, cfV, kV, iV, fV, hD, gV, stV, knV, obV, asV, slV⟩ := V
  obtain ⟨D', cfC, kC, iC, fC, hD', gC, stC, -, -, asC, slC⟩ := C
  cases hD.symm.trans hD'
  obtain ⟨D2, kD, e1, e2, e3, e4, e5⟩ := E
  cases hD.symm.trans e1
  obtain ⟨c2, k2, i1, i2, i3, -⟩ := Cond.instantiable_spec wi
  cases e2.symm.trans i1
  cases e3.symm.trans i2
  obtain ⟨kU, u1, u2⟩ := al.2.2 _ _ e3
  exact ⟨D, fV, fC, ⟨hD, ⟨knV, fun q hq => by rw [hq] at obV; cases obV⟩, by rw [al.findClass]; exact e2, kU, u1, by rw [u2]; exact i3, by rw [u2]; exact e5 i3⟩, ⟨SBG.found_only al ⟨cfV, kV, iV, gV⟩, stV⟩, ⟨SBG.found_only al ⟨cfC, kC, iC, gC⟩, stC⟩, slV, slC, by simp [RoadKit.slotOf, gV], by simp [RoadKit.slotOf, gC]⟩
theorem sta_is {Z U : State} (al : Z.vm.Alike U.vm) {C n d : String} {v : Value} (S : RoadKit.Sta Z U.heap C n d v) : StaticIs U C n d v := by
  obtain ⟨cfS, iS, kS, fS, st, cS, t1, t2, t3, t4, t5, t6, t7⟩ := S
  exact StaticIs.there (s := { Z with heap := U.heap }) ⟨cfS, iS, kS, fS, st, cS, t1, t2, t3, t4, t5, (fun q => by rw [q] at t6; cases t6), t7⟩ al rfl
end StrChars.Road
namespace StrChars
open Jvm Sem ClassFile Op Lib Jvm.Stand Jvm.Free.XT Jvm.Free.ALB Jvm.Free.JM Jvm.Free
open Jvm.Lib.Cold (StaticIs)
/-- what place i of a byte[]'s cell holds -/
def yv (A : Cell) (i : Nat) : Int32 := match A.slots[i]? with | some (.int x) => x | _ => 0
theorem yv_get {a : Addr} {A : Cell} {U : State} (h : XT.Arr .byte a A U) (ht : Typed .byte A) {i : Nat} (hi : i < A.slots.size) : A.slots[i]? = some (.int (yv A i)) := by
  have e := Array.getElem?_eq_getElem hi
  have f := ht i _ e
  unfold yv; rw [e]
  generalize A.slots[i] = v at f
  cases v <;> simp [fits] at f ⊢
/-- the two arrays are equal, place for place -/
def EqC (A B : Cell) : Prop := A.slots.size = B.slots.size ∧ ∀ i, i < A.slots.size → yv A i = yv B i
/-- a boolean that says whether p -/
def Says01 (q : Prop) (r : Option Value) (s u : State) : Prop := ∃ v : Int32, r = some (.int v) ∧ u.heap = s.heap ∧ ((v = 1 ∧ q) ∨ (v = 0 ∧ ¬ q))
theorem Says01.mv {q : Prop} : ∀ r (U U' V V' : State), U'.heap = U.heap → V.vm.Alike V'.vm → V'.heap = V.heap → Says01 q r U V → Says01 q r U' V' :=
  fun r U U' V V' h1 _ h2 ⟨v, a, b, c⟩ => ⟨v, a, by rw [h1, h2]; exact b, c⟩
namespace LEq
def yN : MethodName := ⟨"java/lang/StringLatin1", "equals", "([B[B)Z"⟩
abbrev yB : ByteArray := jdk_43_method_13_code
theorem d0 : decode yB 0 = .ok (.aload_n 0, 1) := by decide +kernel
theorem d1 : decode yB 1 = .ok (.arraylength, 1) := by decide +kernel
theorem d2 : decode yB 2 = .ok (.aload_n 1, 1) := by decide +kernel
theorem d3 : decode yB 3 = .ok (.arraylength, 1) := by decide +kernel
theorem d4 : decode yB 4 = .ok (.if_icmp (.ne) 30, 3) := by decide +kernel
theorem d7 : decode yB 7 = .ok (.iconst 0, 1) := by decide +kernel
theorem d8 : decode yB 8 = .ok (.istore_n 2, 1) := by decide +kernel
theorem d9 : decode yB 9 = .ok (.iload_n 2, 1) := by decide +kernel
theorem d10 : decode yB 10 = .ok (.aload_n 0, 1) := by decide +kernel
theorem d11 : decode yB 11 = .ok (.arraylength, 1) := by decide +kernel
theorem d12 : decode yB 12 = .ok (.if_icmp (.ge) 20, 3) := by decide +kernel
theorem d15 : decode yB 15 = .ok (.aload_n 0, 1) := by decide +kernel
theorem d16 : decode yB 16 = .ok (.iload_n 2, 1) := by decide +kernel
theorem d17 : decode yB 17 = .ok (.baload, 1) := by decide +kernel
theorem d18 : decode yB 18 = .ok (.aload_n 1, 1) := by decide +kernel
theorem d19 : decode yB 19 = .ok (.iload_n 2, 1) := by decide +kernel
theorem d20 : decode yB 20 = .ok (.baload, 1) := by decide +kernel
theorem d21 : decode yB 21 = .ok (.if_icmp (.eq) 5, 3) := by decide +kernel
theorem d24 : decode yB 24 = .ok (.iconst 0, 1) := by decide +kernel
theorem d25 : decode yB 25 = .ok (.ireturn, 1) := by decide +kernel
theorem d26 : decode yB 26 = .ok (.iinc 2 1, 3) := by decide +kernel
theorem d29 : decode yB 29 = .ok (.goto (-20), 3) := by decide +kernel
theorem d32 : decode yB 32 = .ok (.iconst 1, 1) := by decide +kernel
theorem d33 : decode yB 33 = .ok (.ireturn, 1) := by decide +kernel
theorem d34 : decode yB 34 = .ok (.iconst 0, 1) := by decide +kernel
theorem d35 : decode yB 35 = .ok (.ireturn, 1) := by decide +kernel
def site : List Cond := []
def tab : Cond := tabOf yN yB 3 (some .boolean) site
def P (a : Addr) (A : Cell) (b : Addr) (B : Cell) (args : Array Value) (s : State) : Prop := args = #[.ref a, .ref b] ∧ XT.Arr .byte a A s ∧ Typed .byte A ∧ XT.Arr .byte b B s ∧ Typed .byte B
/-- whether two byte[] are equal, place for place -/
theorem law (l : Launch) (a : Addr) (A : Cell) (b : Addr) (B : Cell) : Law l yN 2 2 0 0 yB 3 (some .boolean) site (P a A b B) (Says01 (EqC A B)) [] 0 0 := by
  refine Law.of_walk (plainFor_of_name (by decide +kernel)) (by decide +kernel) (by decide +kernel) (by decide) (fun _ _ h => by rw [h.1]; rfl) (fun _ U U' hal hh h => ⟨h.1, h.2.1.mv hal hh, h.2.2.1, h.2.2.2.1.mv hal hh, h.2.2.2.2⟩) (fun r U U' V V' h1 hal h2 h => Says01.mv r U U' V V' h1 hal h2 h) ?_
  intro p e s m args below meth c s₁ X0 hexec hbytes hml hret hlk hnm hown hh0 W hP
  obtain ⟨rfl, hA, tA, hB, tB⟩ := hP
  have a31 := hA.2.2.2
  have b31 := hB.2.2.2
  have hA0 := hA.mv X0.warmed.alike hh0
  have hB0 := hB.mv X0.warmed.alike hh0
  have c1 : Steps p.tables e below (s₁.setTop (entryFrame m #[.ref a, .ref b] 3)) (s₁.setTop (mkF m 0 #[.val (.ref a), .val (.ref b), .unset] [])) := entry rfl
  have c2 : Steps p.tables e below (s₁.setTop (entryFrame m #[.ref a, .ref b] 3)) (s₁.setTop (mkF m 4 #[.val (.ref a), .val (.ref b), .unset] [.int (Int32.ofNat B.slots.size), .int (Int32.ofNat A.slots.size)])) := c1.trans (by
    refine XS.aloadN X0.here hexec rfl (hb hbytes d0) rfl rfl ?_
    refine X0.alen hexec hA0 rfl rfl (hb hbytes d1) ?_
    refine XS.aloadN X0.here hexec rfl (hb hbytes d2) rfl rfl ?_
    refine X0.alen hexec hB0 rfl rfl (hb hbytes d3) ?_
    exact Steps.refl _)
  by_cases hs : A.slots.size = B.slots.size
  · have c3 : Steps p.tables e below (s₁.setTop (entryFrame m #[.ref a, .ref b] 3)) (s₁.setTop (mkF m 9 #[.val (.ref a), .val (.ref b), .val (.int 0)] [])) := c2.trans (by
      refine XS.icmpNo X0.here hexec rfl (hb hbytes d4) rfl (ii_ne_f (by rw [hs])) ?_
      refine iconstV X0.here hexec rfl 0 (hb hbytes d7) (by decide) ?_
      refine XS.istoreN X0.here hexec rfl (hb hbytes d8) rfl rfl ?_
      exact Steps.refl _)
    have loop : ∀ (r i : Nat), i + r = A.slots.size → (∀ j, j < i → yv A j = yv B j) → Steps p.tables e below (s₁.setTop (entryFrame m #[.ref a, .ref b] 3)) (s₁.setTop (mkF m 9 #[.val (.ref a), .val (.ref b), .val (.int (Int32.ofNat i))] [])) → ∃ (pc : Nat) (Ls : Array Slot) (v : Int32), (pc = 25 ∨ pc = 33) ∧ ((v = 1 ∧ EqC A B) ∨ (v = 0 ∧ ¬ EqC A B)) ∧ Steps p.tables e below (s₁.setTop (entryFrame m #[.ref a, .ref b] 3)) (s₁.setTop (mkF m pc Ls [.int v])) := by
      intro r
      induction r with
      | zero =>
        intro i hi he cl
        exact ⟨33, _, 1, Or.inr rfl, Or.inl ⟨rfl, hs, fun j hj => he j (by omega)⟩, cl.trans (by
          refine XS.iloadN X0.here hexec rfl (hb hbytes d9) rfl ?_
          refine XS.aloadN X0.here hexec rfl (hb hbytes d10) rfl rfl ?_
          refine X0.alen hexec hA0 rfl rfl (hb hbytes d11) ?_
          refine XS.icmpYes X0.here hexec rfl (pc0 := 12) rfl (hb hbytes d12) rfl (ii_ge_t (nlt32 (by omega) (by omega))) (by decide) rfl ?_
          refine iconstV X0.here hexec rfl 1 (hb hbytes d32) (by decide) ?_
          exact Steps.refl _)⟩
      | succ r ih =>
        intro i hi he cl
        have c4 : Steps p.tables e below (s₁.setTop (entryFrame m #[.ref a, .ref b] 3)) (s₁.setTop (mkF m 21 #[.val (.ref a), .val (.ref b), .val (.int (Int32.ofNat i))] [.int (yv B i), .int (yv A i)])) := cl.trans (by
          refine XS.iloadN X0.here hexec rfl (hb hbytes d9) rfl ?_
          refine XS.aloadN X0.here hexec rfl (hb hbytes d10) rfl rfl ?_
          refine X0.alen hexec hA0 rfl rfl (hb hbytes d11) ?_
          refine XS.icmpNo X0.here hexec rfl (hb hbytes d12) rfl (ii_ge_f (lt32 (by omega) (by omega))) ?_
          refine XS.aloadN X0.here hexec rfl (hb hbytes d15) rfl rfl ?_
          refine XS.iloadN X0.here hexec rfl (hb hbytes d16) rfl ?_
          refine X0.aget hexec hA0 rfl (yv_get hA tA (i := i) (by omega)) rfl rfl (hb hbytes d17) ?_
          refine XS.aloadN X0.here hexec rfl (hb hbytes d18) rfl rfl ?_
          refine XS.iloadN X0.here hexec rfl (hb hbytes d19) rfl ?_
          refine X0.aget hexec hB0 rfl (yv_get hB tB (i := i) (by omega)) rfl rfl (hb hbytes d20) ?_
          exact Steps.refl _)
        by_cases hv : yv A i = yv B i
        · have c5 : Steps p.tables e below (s₁.setTop (entryFrame m #[.ref a, .ref b] 3)) (s₁.setTop (mkF m 9 #[.val (.ref a), .val (.ref b), .val (.int (Int32.ofNat i + 1))] [])) := c4.trans (by
            refine XS.icmpYes X0.here hexec rfl (pc0 := 21) rfl (hb hbytes d21) rfl (ii_eq_t hv) (by decide) rfl ?_
            refine iincV X0.here hexec rfl 1 (hb hbytes d26) (by decide) rfl rfl ?_
            refine XS.goto X0.here hexec rfl (pc0 := 29) rfl (hb hbytes d29) (by decide) rfl ?_
            exact Steps.refl _)
          rw [succ32] at c5
          exact ih (i + 1) (by omega) (fun j hj => by
            by_cases e : j = i
            · rw [e]; exact hv
            · exact he j (by omega)) c5
        · exact ⟨25, _, 0, Or.inl rfl, Or.inr ⟨rfl, fun q => hv (q.2 i (by omega))⟩, c4.trans (by
            refine XS.icmpNo X0.here hexec rfl (hb hbytes d21) rfl (ii_eq_f hv) ?_
            refine iconstV X0.here hexec rfl 0 (hb hbytes d24) (by decide) ?_
            exact Steps.refl _)⟩
    obtain ⟨pc, Ls, v, hpc, hv, cz⟩ := loop A.slots.size 0 (by omega) (fun j hj => absurd hj (Nat.not_lt_zero j)) c3
    have nv : narrow .boolean (.int v) = .int v := by rcases hv with ⟨rfl, -⟩ | ⟨rfl, -⟩ <;> rfl
    rcases hpc with rfl | rfl
    · exact ⟨s₁, some (.int v), _, _, _, X0, rfl, rfl, rfl, (fun h => by cases h), ⟨v, rfl, hh0, hv⟩, fun fs hl => cz.trans (X0.ireturnOut hexec hret nv (Or.inr (Or.inl rfl)) (hb hbytes d25) hl)⟩
    · exact ⟨s₁, some (.int v), _, _, _, X0, rfl, rfl, rfl, (fun h => by cases h), ⟨v, rfl, hh0, hv⟩, fun fs hl => cz.trans (X0.ireturnOut hexec hret nv (Or.inr (Or.inl rfl)) (hb hbytes d33) hl)⟩
  · have c3 : Steps p.tables e below (s₁.setTop (entryFrame m #[.ref a, .ref b] 3)) (s₁.setTop (mkF m 35 #[.val (.ref a), .val (.ref b), .unset] [.int 0])) := c2.trans (by
      refine XS.icmpYes X0.here hexec rfl (pc0 := 4) rfl (hb hbytes d4) rfl (ii_ne_t (ne32 a31 b31 hs)) (by decide) rfl ?_
      refine iconstV X0.here hexec rfl 0 (hb hbytes d34) (by decide) ?_
      exact Steps.refl _)
    exact ⟨s₁, some (.int 0), _, _, _, X0, rfl, rfl, rfl, (fun h => by cases h), ⟨0, rfl, hh0, Or.inr ⟨rfl, fun q => hs q.1⟩⟩, fun fs hl => c3.trans (X0.ireturnOut hexec hret rfl (Or.inr (Or.inl rfl)) (hb hbytes d35) hl)⟩
end LEq
theorem Cod.ty {cd : Int32} {n : Nat} {f : Nat → Int32} {V : Cell} (h : Cod cd n f V) : Typed .byte V := fun i v hv => by
  have hi : i < V.slots.size := (Array.getElem?_eq_some_iff.mp hv).1
  rcases h with ⟨-, k1, k2⟩ | ⟨-, k1, k2, -⟩
  · rw [(k2 i (by omega)).1] at hv; cases hv; exact fits_lo8 _
  · rcases Nat.mod_two_eq_zero_or_one i with e | e
    · obtain ⟨j, rfl⟩ : ∃ j, i = 2 * j := ⟨i / 2, by omega⟩
      rw [(k2 j (by omega)).1] at hv; cases hv; exact fits_lo8 _
    · obtain ⟨j, rfl⟩ : ∃ j, i = 2 * j + 1 := ⟨i / 2, by omega⟩
      rw [(k2 j (by omega)).2] at hv; cases hv; exact fits_lo8 _
/-- the same text -/
def SameT (n : Nat) (f : Nat → Int32) (k : Nat) (g : Nat → Int32) : Prop := n = k ∧ ∀ j, j < n → f j = g j
theorem lo8_inj {x y : Int32} (h0 : ¬ x < 0) (h1 : ¬ 255 < x) (k0 : ¬ y < 0) (k1 : ¬ 255 < y) (h : lo8 x = lo8 y) : x = y := by
  rw [← lo8_mask h0 h1, ← lo8_mask k0 k1, h]
/-- arrays coded by one coder are equal just where the texts are -/
theorem Cod.eqv {cd : Int32} {n k : Nat} {f g : Nat → Int32} {V V' : Cell} (h : Cod cd n f V) (h' : Cod cd k g V') (hf : ∀ j, j < n → ¬ f j < 0 ∧ ¬ 65535 < f j) (hg : ∀ j, j < k → ¬ g j < 0 ∧ ¬ 65535 < g j) : EqC V V' ↔ SameT n f k g := by
  have yvv : ∀ {W : Cell} {i : Nat} {x : Int32}, W.slots[i]? = some (.int x) → yv W i = x := fun q => by unfold yv; rw [q]
  rcases h with ⟨rfl, k1, k2⟩ | ⟨rfl, k1, k2, -⟩
  · rcases h' with ⟨-, m1, m2⟩ | ⟨e, -⟩
    · constructor
      · rintro ⟨e1, e2⟩
        refine ⟨by omega, fun j hj => ?_⟩
        have q := e2 j (by omega)
        rw [yvv (k2 j hj).1, yvv (m2 j (by omega)).1] at q
        exact lo8_inj (hf j hj).1 (k2 j hj).2 (hg j (by omega)).1 (m2 j (by omega)).2 q
      · rintro ⟨rfl, e2⟩
        refine ⟨by omega, fun j hj => ?_⟩
        rw [yvv (k2 j (by omega)).1, yvv (m2 j (by omega)).1, e2 j (by omega)]
    · exact absurd e (by decide)
  · rcases h' with ⟨e, -⟩ | ⟨-, m1, m2, -⟩
    · exact absurd e (by decide)
    · constructor
      · rintro ⟨e1, e2⟩
        refine ⟨by omega, fun j hj => ?_⟩
        have q1 := e2 (2 * j) (by omega)
        have q2 := e2 (2 * j + 1) (by omega)
        rw [yvv (k2 j hj).1, yvv (m2 j (by omega)).1] at q1
        rw [yvv (k2 j hj).2, yvv (m2 j (by omega)).2] at q2
        rw [← pair_says (hf j hj).1 (hf j hj).2, ← pair_says (hg j (by omega)).1 (hg j (by omega)).2, q1, q2]
      · rintro ⟨rfl, e2⟩
        refine ⟨by omega, fun i hi => ?_⟩
        rcases Nat.mod_two_eq_zero_or_one i with e | e
        · obtain ⟨j, rfl⟩ : ∃ j, i = 2 * j := ⟨i / 2, by omega⟩
          rw [yvv (k2 j (by omega)).1, yvv (m2 j (by omega)).1, e2 j (by omega)]
        · obtain ⟨j, rfl⟩ : ∃ j, i = 2 * j + 1 := ⟨i / 2, by omega⟩
          rw [yvv (k2 j (by omega)).2, yvv (m2 j (by omega)).2, e2 j (by omega)]
/-- two codings differ: so do the texts -/
theorem Cod.dif {cd cd' : Int32} {n k : Nat} {f g : Nat → Int32} {V V' : Cell} (h : Cod cd n f V) (h' : Cod cd' k g V') (hne : ¬ cd = cd') : ¬ SameT n f k g := by
  rintro ⟨rfl, e⟩
  rcases h with ⟨rfl, -, k2⟩ | ⟨rfl, -, -, j, hj, hw⟩
  · rcases h' with ⟨rfl, -⟩ | ⟨-, -, -, j, hj, hw⟩
    · exact hne rfl
    · exact (k2 j hj).2 (by rw [e j hj]; exact hw)
  · rcases h' with ⟨-, -, m2⟩ | ⟨rfl, -⟩
    · exact (m2 j hj).2 (by rw [← e j hj]; exact hw)
    · exact hne rfl
/-- an object of exactly C is an instance of C -/
theorem cinst {p : Program} {l : Launch} {e : Env} {R : Room} {s : State} {m : MethodId} {args : Array Value} {below : List Frame} {meth : Method} {c : Code} {T : State} {locs : List Loc} {cells slots : Nat} (X : Stand p l e R s m args below meth c T locs cells slots) (hexec : p.tables.exec = Jvm.exec) {own C : String} {index : Nat} (hown : s.vm.findClass own = some m.cls) (hlink : (Cond.classLink own index C).before args s = true) {a : Addr} (hE : Exact C a T)
    {g : JFrame} (hg : g.method = m) {rest : List Value} (hstack : g.stack = .ref a :: rest) (hdg : decode c.code g.pc = .ok (.instanceof index, 3)) :
    ∃ T', Stand p l e R s m args below meth c T' locs cells slots ∧ T'.heap = T.heap ∧ ∀ target, Steps p.tables e below (T'.setTop { g with pc := g.pc + 3, stack := .int 1 :: rest }) target → Steps p.tables e below (T.setTop g) target := by
  obtain ⟨cB, h1, D, h2, h3, h4⟩ := hE
  have h1' : s.vm.findClass C = some cB := by rw [← X.warmed.alike.findClass]; exact h1
  obtain ⟨vm', X', st⟩ := X.instanceofYes hexec hown hlink h2 h4 h1' (by rw [h3]; exact Jvm.Free.SB.assignable_self _ _) hg hstack hdg
  exact ⟨_, X', rfl, st⟩
theorem cself {p : Program} {l : Launch} {e : Env} {R : Room} {s : State} {m : MethodId} {args : Array Value} {below : List Frame} {meth : Method} {c : Code} {T : State} {locs : List Loc} {cells slots : Nat} (X : Stand p l e R s m args below meth c T locs cells slots) (hexec : p.tables.exec = Jvm.exec) {own C : String} {index : Nat} (hown : s.vm.findClass own = some m.cls) (hlink : (Cond.classLink own index C).before args s = true) {a : Addr} (hE : Exact C a T)
    {g : JFrame} (hg : g.method = m) {rest : List Value} (hstack : g.stack = .ref a :: rest) (hdg : decode c.code g.pc = .ok (.checkcast index, 3)) :
    ∃ T', Stand p l e R s m args below meth c T' locs cells slots ∧ T'.heap = T.heap ∧ ∀ target, Steps p.tables e below (T'.setTop { g with pc := g.pc + 3, stack := .ref a :: rest }) target → Steps p.tables e below (T.setTop g) target := by
  obtain ⟨cB, h1, D, h2, h3, h4⟩ := hE
  have h1' : s.vm.findClass C = some cB := by rw [← X.warmed.alike.findClass]; exact h1
  obtain ⟨vm', X', st⟩ := X.checkcastYes hexec hown hlink h2 h4 h1' (by rw [h3]; exact Jvm.Free.SB.assignable_self _ _) hg hstack hdg
  exact ⟨_, X', rfl, fun t h => st t (by rw [← hstack] at h; exact h)⟩
namespace SEq
def yN : MethodName := ⟨"java/lang/String", "equals", "(Ljava/lang/Object;)Z"⟩
abbrev yB : ByteArray := jdk_42_method_66_code
theorem d0 : decode yB 0 = .ok (.aload_n 0, 1) := by decide +kernel
theorem d1 : decode yB 1 = .ok (.aload_n 1, 1) := by decide +kernel
theorem d2 : decode yB 2 = .ok (.if_acmp (.ne) 5, 3) := by decide +kernel
theorem d5 : decode yB 5 = .ok (.iconst 1, 1) := by decide +kernel
theorem d6 : decode yB 6 = .ok (.ireturn, 1) := by decide +kernel
theorem d7 : decode yB 7 = .ok (.aload_n 1, 1) := by decide +kernel
theorem d8 : decode yB 8 = .ok (.instanceof 10, 3) := by decide +kernel
theorem d11 : decode yB 11 = .ok (.ifCond (.eq) 43, 3) := by decide +kernel
theorem d14 : decode yB 14 = .ok (.aload_n 1, 1) := by decide +kernel
theorem d15 : decode yB 15 = .ok (.checkcast 10, 3) := by decide +kernel
theorem d18 : decode yB 18 = .ok (.astore_n 2, 1) := by decide +kernel
theorem d19 : decode yB 19 = .ok (.getstatic 38, 3) := by decide +kernel
theorem d22 : decode yB 22 = .ok (.ifCond (.eq) 14, 3) := by decide +kernel
theorem d25 : decode yB 25 = .ok (.aload_n 0, 1) := by decide +kernel
theorem d26 : decode yB 26 = .ok (.getfield 15, 3) := by decide +kernel
theorem d29 : decode yB 29 = .ok (.aload_n 2, 1) := by decide +kernel
theorem d30 : decode yB 30 = .ok (.getfield 15, 3) := by decide +kernel
theorem d33 : decode yB 33 = .ok (.if_icmp (.ne) 21, 3) := by decide +kernel
theorem d36 : decode yB 36 = .ok (.aload_n 0, 1) := by decide +kernel
theorem d37 : decode yB 37 = .ok (.getfield 9, 3) := by decide +kernel
theorem d40 : decode yB 40 = .ok (.aload_n 2, 1) := by decide +kernel
theorem d41 : decode yB 41 = .ok (.getfield 9, 3) := by decide +kernel
theorem d44 : decode yB 44 = .ok (.invokestatic 541, 3) := by decide +kernel
theorem d47 : decode yB 47 = .ok (.ifCond (.eq) 7, 3) := by decide +kernel
theorem d50 : decode yB 50 = .ok (.iconst 1, 1) := by decide +kernel
theorem d51 : decode yB 51 = .ok (.goto 4, 3) := by decide +kernel
theorem d54 : decode yB 54 = .ok (.iconst 0, 1) := by decide +kernel
theorem d55 : decode yB 55 = .ok (.ireturn, 1) := by decide +kernel
def site : List Cond := [.classLink "java/lang/String" 10 "java/lang/String", .fieldLink "java/lang/String" 38 "java/lang/String" "COMPACT_STRINGS" "Z", .fieldLink "java/lang/String" 15 "java/lang/String" "coder" "B", .fieldLink "java/lang/String" 9 "java/lang/String" "value" "[B", LEq.tab] ++ staticW "java/lang/String" 541 LEq.yN
def tab : Cond := tabOf yN yB 3 (some .boolean) site
def P (x t : Addr) (V : Cell) (cd : Int32) (n : Nat) (f : Nat → Int32) (y t' : Addr) (V' : Cell) (cd' : Int32) (k : Nat) (g : Nat → Int32) (z : Int32) (args : Array Value) (s : State) : Prop := args = #[.ref x, .ref y] ∧ Txt x t V cd n f s ∧ Txt y t' V' cd' k g s ∧ StaticIs s "java/lang/String" "COMPACT_STRINGS" "Z" (.int z) ∧ ¬ z = 0
/-- equals(Object) of two Strings: whether the texts are the same -/
theorem law (l : Launch) (x t : Addr) (V : Cell) (cd : Int32) (n : Nat) (f : Nat → Int32) (y t' : Addr) (V' : Cell) (cd' : Int32) (k : Nat) (g : Nat → Int32) (z : Int32) : Law l yN 2 1 1 14 yB 3 (some .boolean) site (P x t V cd n f y t' V' cd' k g z) (Says01 (SameT n f k g)) [] 0 0 := by
  refine Law.of_walk (plainFor_of_name (by decide +kernel)) (by decide +kernel) (by decide +kernel) (by decide) (fun _ _ h => by rw [h.1]; rfl) (fun _ U U' hal hh h => ⟨h.1, h.2.1.mv hal hh, h.2.2.1.mv hal hh, h.2.2.2.1.there hal hh, h.2.2.2.2⟩) (fun r U U' V V' h1 hal h2 h => Says01.mv r U U' V V' h1 hal h2 h) ?_
  intro p e s m args below meth c s₁ X0 hexec hbytes hml hret hlk hnm hown hh0 W hP
  obtain ⟨rfl, hx, hy, s1, hz⟩ := hP
  have c1 : Steps p.tables e below (s₁.setTop (entryFrame m #[.ref x, .ref y] 3)) (s₁.setTop (mkF m 2 #[.val (.ref x), .val (.ref y), .unset] [.ref y, .ref x])) := Steps.trans (entry rfl) (by
    show Steps p.tables e below (s₁.setTop (mkF m 0 #[.val (.ref x), .val (.ref y), .unset] [])) _
    refine XS.aloadN X0.here hexec rfl (hb hbytes d0) rfl rfl ?_
    refine XS.aloadN X0.here hexec rfl (hb hbytes d1) rfl rfl ?_
    exact Steps.refl _)
  by_cases hxy : x = y
  · have c2 : Steps p.tables e below (s₁.setTop (entryFrame m #[.ref x, .ref y] 3)) (s₁.setTop (mkF m 6 #[.val (.ref x), .val (.ref y), .unset] [.int 1])) := c1.trans (by
      refine acmpNo X0.here hexec rfl (hb hbytes d2) rfl rfl rfl (by simp [acmp, hxy]) ?_
      refine iconstV X0.here hexec rfl 1 (hb hbytes d5) (by decide) ?_
      exact Steps.refl _)
    subst hxy
    have ec : cd = cd' := by
      obtain ⟨D, fd, a1, a2, a3⟩ := hx.2.2.1
      obtain ⟨D', fd', b1, b2, b3⟩ := hy.2.2.1
      cases a1.symm.trans b1
      obtain ⟨q1, q2, q3, q4⟩ := a2.1
      obtain ⟨r1, r2, r3, r4⟩ := b2.1
      cases q4.symm.trans r4
      cases a3.symm.trans b3; rfl
    have et : t = t' := by
      obtain ⟨D, fd, a1, a2, a3⟩ := hx.2.1
      obtain ⟨D', fd', b1, b2, b3⟩ := hy.2.1
      cases a1.symm.trans b1
      obtain ⟨q1, q2, q3, q4⟩ := a2.1
      obtain ⟨r1, r2, r3, r4⟩ := b2.1
      cases q4.symm.trans r4
      cases a3.symm.trans b3; rfl
    subst ec et
    have ev : V = V' := by cases hx.2.2.2.1.1.symm.trans hy.2.2.2.1.1; rfl
    subst ev
    have hs : SameT n f k g := (Cod.eqv hx.2.2.2.2.1 hy.2.2.2.2.1 hx.2.2.2.2.2 hy.2.2.2.2.2).mp ⟨rfl, fun _ _ => rfl⟩
    exact ⟨s₁, some (.int 1), _, _, _, X0, rfl, rfl, rfl, (fun h => by cases h), ⟨1, rfl, hh0, Or.inl ⟨rfl, hs⟩⟩, fun fs hl => c2.trans (X0.ireturnOut hexec hret rfl (Or.inr (Or.inl rfl)) (hb hbytes d6) hl)⟩
  · have c2 : Steps p.tables e below (s₁.setTop (entryFrame m #[.ref x, .ref y] 3)) (s₁.setTop (mkF m 8 #[.val (.ref x), .val (.ref y), .unset] [.ref y])) := c1.trans (by
      refine acmpYes X0.here hexec rfl (pc0 := 2) rfl (hb hbytes d2) rfl rfl rfl (by simp [acmp, hxy]) (by decide) rfl ?_
      refine XS.aloadN X0.here hexec rfl (hb hbytes d7) rfl rfl ?_
      exact Steps.refl _)
    obtain ⟨T3, X3, q3, st3⟩ := cinst X0 hexec hown (wk W (.classLink "java/lang/String" 10 "java/lang/String")) (hy.mv X0.warmed.alike hh0).1 (g := (mkF m 8 #[.val (.ref x), .val (.ref y), .unset] [.ref y])) rfl (rest := []) rfl (hb hbytes d8)
    have hh3 := q3.trans hh0
    have c4 : Steps p.tables e below (s₁.setTop (entryFrame m #[.ref x, .ref y] 3)) (T3.setTop (mkF m 15 #[.val (.ref x), .val (.ref y), .unset] [.ref y])) := (c2.trans (st3 _ (Steps.refl _))).trans (by
      refine XS.ifNo X3.here hexec rfl (hb hbytes d11) rfl (i0_eq_f (by decide)) ?_
      refine XS.aloadN X3.here hexec rfl (hb hbytes d14) rfl rfl ?_
      exact Steps.refl _)
    obtain ⟨T5, X5, q5, st5⟩ := cself X3 hexec hown (wk W (.classLink "java/lang/String" 10 "java/lang/String")) (hy.mv X3.warmed.alike hh3).1 (g := (mkF m 15 #[.val (.ref x), .val (.ref y), .unset] [.ref y])) rfl (rest := []) rfl (hb hbytes d15)
    have hh5 := q5.trans hh3
    have c6 : Steps p.tables e below (s₁.setTop (entryFrame m #[.ref x, .ref y] 3)) (T5.setTop (mkF m 19 #[.val (.ref x), .val (.ref y), .val (.ref y)] [])) := (c4.trans (st5 _ (Steps.refl _))).trans (by
      refine XS.astoreN X5.here hexec rfl (hb hbytes d18) rfl rfl rfl ?_
      exact Steps.refl _)
    obtain ⟨T7, X7, q7, st7⟩ := X5.sget hexec hown (wk W (.fieldLink "java/lang/String" 38 "java/lang/String" "COMPACT_STRINGS" "Z")) s1 (fun _ _ h => by rw [hh5]; exact h) (g := (mkF m 19 #[.val (.ref x), .val (.ref y), .val (.ref y)] [])) rfl (hb hbytes d19)
    have hh7 := q7.trans hh5
    have c8 : Steps p.tables e below (s₁.setTop (entryFrame m #[.ref x, .ref y] 3)) (T7.setTop (mkF m 26 #[.val (.ref x), .val (.ref y), .val (.ref y)] [.ref x])) := (c6.trans (st7 _ (Steps.refl _))).trans (by
      refine XS.ifNo X7.here hexec rfl (hb hbytes d22) rfl (i0_eq_f hz) ?_
      refine XS.aloadN X7.here hexec rfl (hb hbytes d25) rfl rfl ?_
      exact Steps.refl _)
    obtain ⟨T9, X9, q9, st9⟩ := X7.hget hexec hown (wk W (.fieldLink "java/lang/String" 15 "java/lang/String" "coder" "B")) (hx.mv X7.warmed.alike hh7).2.2.1 (g := (mkF m 26 #[.val (.ref x), .val (.ref y), .val (.ref y)] [.ref x])) rfl (rest := []) rfl (hb hbytes d26)
    have hh9 := q9.trans hh7
    have c10 : Steps p.tables e below (s₁.setTop (entryFrame m #[.ref x, .ref y] 3)) (T9.setTop (mkF m 30 #[.val (.ref x), .val (.ref y), .val (.ref y)] [.ref y, .int cd])) := (c8.trans (st9 _ (Steps.refl _))).trans (by
      refine XS.aloadN X9.here hexec rfl (hb hbytes d29) rfl rfl ?_
      exact Steps.refl _)
    obtain ⟨T11, X11, q11, st11⟩ := X9.hget hexec hown (wk W (.fieldLink "java/lang/String" 15 "java/lang/String" "coder" "B")) (hy.mv X9.warmed.alike hh9).2.2.1 (g := (mkF m 30 #[.val (.ref x), .val (.ref y), .val (.ref y)] [.ref y, .int cd])) rfl (rest := [.int cd]) rfl (hb hbytes d30)
    have hh11 := q11.trans hh9
    have c12 : Steps p.tables e below (s₁.setTop (entryFrame m #[.ref x, .ref y] 3)) (T11.setTop (mkF m 33 #[.val (.ref x), .val (.ref y), .val (.ref y)] [.int cd', .int cd])) := c10.trans (st11 _ (Steps.refl _))
    by_cases hcd : cd = cd'
    · subst hcd
      have c13 : Steps p.tables e below (s₁.setTop (entryFrame m #[.ref x, .ref y] 3)) (T11.setTop (mkF m 37 #[.val (.ref x), .val (.ref y), .val (.ref y)] [.ref x])) := c12.trans (by
        refine XS.icmpNo X11.here hexec rfl (hb hbytes d33) rfl (ii_ne_f rfl) ?_
        refine XS.aloadN X11.here hexec rfl (hb hbytes d36) rfl rfl ?_
        exact Steps.refl _)
      obtain ⟨T14, X14, q14, st14⟩ := X11.hget hexec hown (wk W (.fieldLink "java/lang/String" 9 "java/lang/String" "value" "[B")) (hx.mv X11.warmed.alike hh11).2.1 (g := (mkF m 37 #[.val (.ref x), .val (.ref y), .val (.ref y)] [.ref x])) rfl (rest := []) rfl (hb hbytes d37)
      have hh14 := q14.trans hh11
      have c15 : Steps p.tables e below (s₁.setTop (entryFrame m #[.ref x, .ref y] 3)) (T14.setTop (mkF m 41 #[.val (.ref x), .val (.ref y), .val (.ref y)] [.ref y, .ref t])) := (c13.trans (st14 _ (Steps.refl _))).trans (by
        refine XS.aloadN X14.here hexec rfl (hb hbytes d40) rfl rfl ?_
        exact Steps.refl _)
      obtain ⟨T16, X16, q16, st16⟩ := X14.hget hexec hown (wk W (.fieldLink "java/lang/String" 9 "java/lang/String" "value" "[B")) (hy.mv X14.warmed.alike hh14).2.1 (g := (mkF m 41 #[.val (.ref x), .val (.ref y), .val (.ref y)] [.ref y, .ref t])) rfl (rest := [.ref t]) rfl (hb hbytes d41)
      have hh16 := q16.trans hh14
      have c17 : Steps p.tables e below (s₁.setTop (entryFrame m #[.ref x, .ref y] 3)) (T16.setTop (mkF m 44 #[.val (.ref x), .val (.ref y), .val (.ref y)] [.ref t', .ref t])) := c15.trans (st16 _ (Steps.refl _))
      obtain ⟨v18, T18, X18, E18, g18⟩ := X16.callS hexec (LEq.law l t V t' V') hown (wks W (staticW "java/lang/String" 541 LEq.yN)) (wk W LEq.tab) (W := 0) (Nat.le_of_ble_eq_true rfl) (Nat.le_of_ble_eq_true rfl) (Nat.le_refl _) (Nat.le_refl _) (g := (mkF m 44 #[.val (.ref x), .val (.ref y), .val (.ref y)] [.ref t', .ref t])) rfl (by rw [hml]; rfl) c17 (argsL := [.ref t, .ref t']) (rest := []) rfl rfl (by show 2 * 0 + 0 ≤ _; decide) (hb hbytes d44) (⟨rfl, hx.2.2.2.1.mv X16.warmed.alike hh16, hx.2.2.2.2.1.ty, hy.2.2.2.1.mv X16.warmed.alike hh16, hy.2.2.2.2.1.ty⟩)
      obtain ⟨v, rfl, q18, hv⟩ := E18
      have iff := Cod.eqv hx.2.2.2.2.1 hy.2.2.2.2.1 hx.2.2.2.2.2 hy.2.2.2.2.2
      rcases hv with ⟨rfl, he⟩ | ⟨rfl, he⟩
      · have c19 : Steps p.tables e below (s₁.setTop (entryFrame m #[.ref x, .ref y] 3)) (T18.setTop (mkF m 55 #[.val (.ref x), .val (.ref y), .val (.ref y)] [.int 1])) := Steps.trans g18 (by
          refine XS.ifNo X18.here hexec rfl (hb hbytes d47) rfl (i0_eq_f (by decide)) ?_
          refine iconstV X18.here hexec rfl 1 (hb hbytes d50) (by decide) ?_
          refine XS.goto X18.here hexec rfl (pc0 := 51) rfl (hb hbytes d51) (by decide) rfl ?_
          exact Steps.refl _)
        exact ⟨T18, some (.int 1), _, _, _, X18, rfl, rfl, rfl, (fun h => by cases h), ⟨1, rfl, q18.trans hh16, Or.inl ⟨rfl, iff.mp he⟩⟩, fun fs hl => c19.trans (X18.ireturnOut hexec hret rfl (Or.inr (Or.inl rfl)) (hb hbytes d55) hl)⟩
      · have c19 : Steps p.tables e below (s₁.setTop (entryFrame m #[.ref x, .ref y] 3)) (T18.setTop (mkF m 55 #[.val (.ref x), .val (.ref y), .val (.ref y)] [.int 0])) := Steps.trans g18 (by
          refine XS.ifYes X18.here hexec rfl (pc0 := 47) rfl (hb hbytes d47) rfl (i0_eq_t rfl) (by decide) rfl ?_
          refine iconstV X18.here hexec rfl 0 (hb hbytes d54) (by decide) ?_
          exact Steps.refl _)
        exact ⟨T18, some (.int 0), _, _, _, X18, rfl, rfl, rfl, (fun h => by cases h), ⟨0, rfl, q18.trans hh16, Or.inr ⟨rfl, fun q => he (iff.mpr q)⟩⟩, fun fs hl => c19.trans (X18.ireturnOut hexec hret rfl (Or.inr (Or.inl rfl)) (hb hbytes d55) hl)⟩
    · have c13 : Steps p.tables e below (s₁.setTop (entryFrame m #[.ref x, .ref y] 3)) (T11.setTop (mkF m 55 #[.val (.ref x), .val (.ref y), .val (.ref y)] [.int 0])) := c12.trans (by
        refine XS.icmpYes X11.here hexec rfl (pc0 := 33) rfl (hb hbytes d33) rfl (ii_ne_t hcd) (by decide) rfl ?_
        refine iconstV X11.here hexec rfl 0 (hb hbytes d54) (by decide) ?_
        exact Steps.refl _)
      exact ⟨T11, some (.int 0), _, _, _, X11, rfl, rfl, rfl, (fun h => by cases h), ⟨0, rfl, hh11, Or.inr ⟨rfl, Cod.dif hx.2.2.2.2.1 hy.2.2.2.2.1 hcd⟩⟩, fun fs hl => c13.trans (X11.ireturnOut hexec hret rfl (Or.inr (Or.inl rfl)) (hb hbytes d55) hl)⟩
theorem pays {l : Launch} {R : Room} {p : Program} {e : Env} {below : List Frame} {s : State} {sargs : Array Value} {len W : Nat} (x t : Addr) (V : Cell) (cd : Int32) (n : Nat) (f : Nat → Int32) (y t' : Addr) (V' : Cell) (cd' : Int32) (k : Nat) (g : Nat → Int32) (z : Int32) (htab : tab.before sargs s = true) (hfr : 2 ≤ R.frames) (hlo : W + 28 ≤ R.locals) :
    Back l R p e below s sargs yN len W (fun A₁ a₁ => A₁.cells + 0 ≤ R.cells ∧ A₁.slots + 0 ≤ R.slots ∧ P x t V cd n f y t' V' cd' k g z a₁ A₁.U) (fun A₁ _ v₁ B₁ => Says01 (SameT n f k g) v₁ A₁.U B₁.U ∧ B₁.locs = A₁.locs ++ [] ∧ B₁.cells = A₁.cells + 0 ∧ B₁.slots = A₁.slots + 0) :=
  (law l x t V cd n f y t' V' cd' k g z).pays htab hfr (by omega)
end SEq
end StrChars
namespace StrChars.Road
open Jvm Sem ClassFile Op Lib Jvm.Stand Jvm.Free Jvm.Free.XT
open Jvm.Lib.Cold (StaticIs)
/-- the words of String.equals(Object) -/
abbrev wordsEq : List Jvm.Cond := [.code SEq.yN SEq.yB 3 (some .boolean), .initialized ST, .classLink ST 10 ST, .fieldLink ST 38 ST "COMPACT_STRINGS" "Z", .fieldLink ST 15 ST "coder" "B", .fieldLink ST 9 ST "value" "[B", .methodLink ST 541 LEq.yN, .static LEq.yN, .code LEq.yN LEq.yB 3 (some .boolean), .initialized "java/lang/StringLatin1"]
theorem tabEq_of {a : Array Value} {s : State} (h : ∀ w ∈ wordsEq, w.before a s = true) : SEq.tab.before a s = true := by
  have hl : LEq.tab.before a s = true := unparts (wk h (.code LEq.yN LEq.yB 3 (some .boolean))) (wks h (.initialized LEq.yN.cls :: LEq.site))
  have q := consq hl h
  exact unparts (wk q (.code SEq.yN SEq.yB 3 (some .boolean))) (wks q (.initialized SEq.yN.cls :: SEq.site))
theorem movedEq {Z s : State} {a0 args : Array Value} (hZ : Z.Warmed39 s.vm) (hw : ∀ d ∈ wordsEq, d.before a0 Z = true) : ∀ d ∈ wordsEq, d.before args s = true := fun d hd => by
  have t : ∀ d ∈ wordsEq, (d.onTables && d.keepsFace) = true := by decide +kernel
  exact RoadKit.mv hZ (hw d hd) (t d hd)
/-- the road's facts of a String, as the laws ask it -/
theorem txt_of {Z U : State} {a0 : Array Value} {kI : Nat} (wi : (Jvm.Cond.instantiable ST kI).before a0 Z = true) (al : Z.vm.Alike U.vm) {x t : Addr} {kb : ClassId} {cs : List Int32} {cd N2 : Int32} {vs : List Value} (E : RoadKit.Exa Z U.heap x ST) (V : RoadKit.Fld Z U.heap x ST "value" "[B" (.ref t)) (C : RoadKit.Fld Z U.heap x ST "coder" "B" (.int cd)) (K : RoadKit.Arv Z U.heap t kb .byte N2 vs (.int 0)) (hc : CodA cs cd N2 vs) (hb : ∀ c ∈ cs, ¬ c < 0 ∧ ¬ (65535 : Int32) < c) (l2 : cs.length ≤ 4000) :
    ∃ A, Txt x t A cd cs.length (fun j => cs.getD j 0) U := by
  obtain ⟨A, K1, K2, K3, K4, K5, K6⟩ := K
  have hcod := hc.cod (by omega) K3 K5
  obtain ⟨D, fV, fC, hB, F1, F2, g1, g2, -, -⟩ := strObj wi al E V C
  exact ⟨A, ⟨_, hB.2.2.1, D, hB.1, rfl, by cases q : D.vm <;> first | rfl | exact absurd q (hB.2.1.2 _)⟩, Has.of hB F1 g1, Has.of hB F2 g2, ⟨K1.1, State.isArrayOf_alike al K1.2.1, K1.2.2, by rcases hcod with ⟨-, q, -⟩ | ⟨-, q, -⟩ <;> omega⟩, hcod, fun j hj => by
    have e : cs.getD j 0 = cs[j] := by simp [List.getD_eq_getElem?_getD, hj]
    show ¬ cs.getD j 0 < 0 ∧ ¬ 65535 < cs.getD j 0
    rw [e]; exact hb _ (List.getElem_mem _)⟩
theorem same_list (cs ds : List Int32) : SameT cs.length (fun j => cs.getD j 0) ds.length (fun j => ds.getD j 0) ↔ cs = ds := by
  constructor
  · rintro ⟨e, q⟩
    refine List.ext_getElem e fun j h1 h2 => ?_
    have := q j h1
    simpa [List.getD_eq_getElem?_getD, h1, h2] using this
  · rintro rfl
    exact ⟨rfl, fun _ _ => rfl⟩
/-- **equals(Object) OF TWO SUCH STRINGS**: 1 just where the chars are the same -/
theorem eqW {p : Program} {l : Launch} {e : Env} {R : Room} {s : State} {args : Array Value} {below : List Frame} {len W : Nat} {Z : State} {a0 : Array Value} {h : Heap} (hZ : Z.Warmed39 s.vm) (hw : ∀ d ∈ wordsEq, d.before a0 Z = true) {kI : Nat} (wi : (Jvm.Cond.instantiable ST kI).before a0 Z = true)
    {x t : Addr} {kb : ClassId} {cs : List Int32} {cd N2 : Int32} {vs : List Value} (E : RoadKit.Exa Z h x ST) (V : RoadKit.Fld Z h x ST "value" "[B" (.ref t)) (C : RoadKit.Fld Z h x ST "coder" "B" (.int cd)) (K : RoadKit.Arv Z h t kb .byte N2 vs (.int 0)) (hc : CodA cs cd N2 vs) (hb : ∀ c ∈ cs, ¬ c < 0 ∧ ¬ (65535 : Int32) < c) (l2 : cs.length ≤ 4000)
    {y t' : Addr} {kb' : ClassId} {ds : List Int32} {cd' N2' : Int32} {vs' : List Value} (E' : RoadKit.Exa Z h y ST) (V' : RoadKit.Fld Z h y ST "value" "[B" (.ref t')) (C' : RoadKit.Fld Z h y ST "coder" "B" (.int cd')) (K' : RoadKit.Arv Z h t' kb' .byte N2' vs' (.int 0)) (hc' : CodA ds cd' N2' vs') (hb' : ∀ c ∈ ds, ¬ c < 0 ∧ ¬ (65535 : Int32) < c) (l2' : ds.length ≤ 4000)
    {z : Int32} (S : RoadKit.Sta Z h ST "COMPACT_STRINGS" "Z" (.int z)) (hz : ¬ z = 0) (hfr : 2 ≤ R.frames) (hlo : W + 28 ≤ R.locals) :
    Back l R p e below s args (⟨"java/lang/String", "equals", "(Ljava/lang/Object;)Z"⟩ : MethodName) len W (fun P a => a = #[.ref x, .ref y] ∧ P.U.heap = h ∧ P.cells + 0 ≤ R.cells ∧ P.slots + 0 ≤ R.slots)
      (fun P _ v B => ∃ L, (((v = some (.int 1) ∧ cs = ds) ∨ (v = some (.int 0) ∧ ¬ cs = ds)) ∧ L = [] ∧ B.U.heap = h) ∧ B.locs = P.locs ++ L ∧ B.cells = P.cells + 0 ∧ B.slots = P.slots + 0) := by
  intro m meth c P g ig mk a X hg hsize hdg hW hn hp'
  obtain ⟨rfl, rfl, r1, r2⟩ := hp'
  have al : Z.vm.Alike P.U.vm := hZ.alike.trans X.warmed.alike
  obtain ⟨A, hx⟩ := txt_of wi al E V C K hc hb l2
  obtain ⟨A', hy⟩ := txt_of wi al E' V' C' K' hc' hb' l2'
  obtain ⟨v, B, X', ⟨⟨w, hv, hh, hq⟩, hl, hk, hs⟩, st⟩ := SEq.pays x t A cd cs.length (fun j => cs.getD j 0) y t' A' cd' ds.length (fun j => ds.getD j 0) z (tabEq_of (movedEq hZ hw)) hfr hlo m meth c P g ig mk _ X hg hsize hdg hW hn ⟨r1, r2, rfl, hx, hy, sta_is al S, hz⟩
  refine ⟨v, B, X', ⟨[], ⟨?_, rfl, hh⟩, hl, hk, hs⟩, st⟩
  rcases hq with ⟨rfl, q⟩ | ⟨rfl, q⟩
  · exact Or.inl ⟨hv, (same_list cs ds).mp q⟩
  · exact Or.inr ⟨hv, fun e => q ((same_list cs ds).mpr e)⟩
end StrChars.Road
namespace StrChars.Road
open Jvm Sem ClassFile Op Lib Jvm.Stand Jvm.Free Jvm.Free.XT
open Jvm.Lib.Cold (StaticIs)
/-- what backV says of its String, as the contracts of this text ask it: cs's low bytes, coder 0 -/
theorem codOf {cs : List Int32} {n : Nat} (hn : cs.length = n) (hb : ∀ c ∈ cs, ¬ 255 < c) : CodA cs 0 (Int32.ofNat n) ((cs.map lo8).map Value.int) := Or.inl ⟨rfl, by rw [hn], by simp [List.map_map, Function.comp_def], hb⟩
end StrChars.Road
end Jvm.Pilot.@@N@@
namespace Jvm.RoadKit
open Sem ClassFile Op Lib Jvm.Stand Jvm.Free Jvm.LawKit
section New
variable {p : Program} {l : Launch} {e : Env} {R : Room} {s : State} {m : MethodId} {args : Array Value} {below : List Frame} {meth : Method} {c : Code} {T : State} {locs : List Loc} {cells slots : Nat}
theorem retI (X : Stand p l e R s m args below meth c T locs cells slots) (hx : p.tables.exec = Jvm.exec) {pc : Nat} {Ls : Array Slot} {z : Int32} {rest : List Value} (hret : meth.sig.returnType = some .int) (hd : decode c.code pc = .ok (.ireturn, 1)) {fs : List Frame}
    (hl : ∀ (f : JFrame) (acts : List Action), f.method = m → f.locked = none → f.entered = [] → (doReturn e (T.setTop f) acts (some (.int z))).1 = T.setFrames fs) : Steps p.tables e below (T.setTop (mkF m pc Ls (.int z :: rest))) (T.setFrames fs) := by
  have hm' : T.vm.method? m = some meth := X.method'
  have hn : narrow .int (.int z) = .int z := rfl
  show Steps p.tables e below (T.setTop { method := m, pc := pc, locals := Ls, stack := _ :: rest, locked := none }) _
  jvm_step X.here [X.here.top, hx, hd, hm', hret, hn]
  first | (intro acts; rw [hl _ acts rfl rfl rfl]) | rw [hl _ _ rfl rfl rfl]
  exact Steps.refl _
theorem own_nar01 {z : Int32} (h : z = 0 ∨ z = 1) : narrow .boolean (.int z) = .int z := by rcases h with rfl | rfl <;> rfl
theorem own_fit01 {z : Int32} (h : z = 0 ∨ z = 1) : fits .boolean (.int z) = true := by rcases h with rfl | rfl <;> decide
theorem own_retZ (X : Stand p l e R s m args below meth c T locs cells slots) (hx : p.tables.exec = Jvm.exec) {pc : Nat} {Ls : Array Slot} {z : Int32} {rest : List Value} (hret : meth.sig.returnType = some .boolean) (hz : z = 0 ∨ z = 1) (hd : decode c.code pc = .ok (.ireturn, 1)) {fs : List Frame}
    (hl : ∀ (f : JFrame) (acts : List Action), f.method = m → f.locked = none → f.entered = [] → (doReturn e (T.setTop f) acts (some (.int z))).1 = T.setFrames fs) : Steps p.tables e below (T.setTop (mkF m pc Ls (.int z :: rest))) (T.setFrames fs) := by
  have hm' : T.vm.method? m = some meth := X.method'
  have hn : narrow .boolean (.int z) = .int z := own_nar01 hz
  show Steps p.tables e below (T.setTop { method := m, pc := pc, locals := Ls, stack := _ :: rest, locked := none }) _
  jvm_step X.here [X.here.top, hx, hd, hm', hret, hn]
  first | (intro acts; rw [hl _ acts rfl rfl rfl]) | rw [hl _ _ rfl rfl rfl]
  exact Steps.refl _
end New
section Own
variable {Z : State} {h h' : Heap} {C n d : String} {w : Value} {a : Addr}
theorem own_sta_keep (F : Sta Z h C n d w) {ws : List Addr} (K : Keep h h' ws) (q : ∀ (st : Addr) (cell : Cell), h[st]? = some cell → cell.vm.isStatics = true → st ∉ ws) : Sta Z h' C n d w := by
  obtain ⟨cf, i, k, f, st, cell, h1, h2, h3, h4, h5, h6, h7⟩ := F
  exact ⟨cf, i, k, f, st, cell, h1, h2, h3, h4, K.2.1 st cell h5 (q st cell h5 h6), h6, h7⟩
theorem own_eqf {args : Array Value} {s : State} {t : Term} {C n d : String} {k : Int32} {x : Addr} (h : (Jvm.Cond.eq (.field t C n d) (.int k)).value args s none s [] = some true) (ht : t.eval args s none [] s = some (.ref x)) : s.fieldOf? x C n d = some (.int k) := by
  simp only [Cond.value, Term.eval, ht, Option.bind_eq_bind, Option.bind_some] at h
  cases hv : s.fieldOf? x C n d with
  | none => simp [hv] at h
  | some v => cases v <;> simp_all
theorem own_eqL {args : Array Value} {s : State} {t : Term} {k : Int64} (h : (Jvm.Cond.eq t (.long k)).value args s none s [] = some true) : t.eval args s none [] s = some (.long k) := by
  simp only [Cond.value, Term.eval] at h
  cases hv : t.eval args s none [] s with
  | none => simp [hv] at h
  | some v => cases v <;> simp_all
theorem own_eqI {args : Array Value} {s : State} {t : Term} {k : Int32} (h : (Jvm.Cond.eq t (.int k)).value args s none s [] = some true) : t.eval args s none [] s = some (.int k) := by
  simp only [Cond.value, Term.eval] at h
  cases hv : t.eval args s none [] s with
  | none => simp [hv] at h
  | some v => cases v <;> simp_all
theorem own_sta_keep0 (F : Sta Z h C n d w) (K : Keep h h' []) : Sta Z h' C n d w := own_sta_keep F K fun _ _ _ _ q => nomatch q
theorem own_sta_keep1 (F : Sta Z h C n d w) (K : Keep h h' [a]) {C' : String} (E : Exa Z h a C') : Sta Z h' C n d w := own_sta_keep F K fun st cell h1 h2 q => by
  cases List.mem_singleton.mp q
  obtain ⟨c2, _, g1, -, -, g4, -⟩ := E
  cases h1.symm.trans g1
  rw [h2] at g4; cases g4
end Own
end Jvm.RoadKit
namespace Jvm.Pilot.@@N@@
open Jvm Jvm.ClassFile Sem Op Lib Jvm.Free Jvm.Stand Jvm.LawKit Jvm.RoadKit Bundle Jvm.Pilot.@@N@@.Jvm.D
def ow (n : Int32) : Value := .int (nar .char n)
def oz : Value := .int 0
theorem own_t {a0 : Array Value} {Z : State} (hw : ∀ d ∈ tables_1, d.before a0 Z = true) (i : Nat) {d : Jvm.Cond} (h : tables_1[i]? = some d) : d.before a0 Z = true := hw _ (List.mem_of_getElem? h)
theorem own_wS (Z : State) (a0 : Array Value) (hw : ∀ d ∈ tables_1, d.before a0 Z = true) : ∀ a ∈ Bundle.stringAtoms, a.before a0 Z = true := by
  intro d hd
  simp only [Bundle.stringAtoms, Bundle.sN, List.mem_cons, List.not_mem_nil, or_false] at hd
  rcases hd with rfl | rfl | rfl | rfl | rfl | rfl | rfl
  · exact (own_t hw 3 rfl)
  · exact (own_t hw 2 rfl)
  · exact (own_t hw 19 rfl)
  · exact (own_t hw 29 rfl)
  · exact (own_t hw 27 rfl)
  · exact (own_t hw 34 rfl)
  · exact (own_t hw 35 rfl)
theorem own_notz {args : Array Value} {s : State} {t : Term} {z : Int32} (h : (Jvm.Cond.not (.eq t (.int 0))).value args s none s [] = some true) (ht : t.eval args s none [] s = some (.int z)) : ¬ z = 0 := by
  intro e
  subst e
  simp [Cond.value, ht, Term.eval] at h
def own_u (p k : Int32) : Int32 := (p.toUInt32 >>> (k &&& 31).toUInt32).toInt32
def own_ch (x : Int32) : Int32 := (x &&& 255).toUInt32.toUInt16.toUInt32.toInt32
theorem own_ch_in (x : Int32) : 0 ≤ (own_ch x).toInt ∧ (own_ch x).toInt ≤ 255 := by
  have a := c_and x 255 (by decide)
  have b := c_i2c (x &&& 255)
  have k : (255 : Int32).toInt = 255 := by decide
  unfold own_ch at *
  omega
theorem own_ch_255 (x : Int32) : ¬ (255 : Int32) < own_ch x := by
  have a := own_ch_in x
  have k : (255 : Int32).toInt = 255 := by decide
  rw [Int32.lt_iff_toInt_lt]
  omega
theorem own_ch_rng (x : Int32) : ¬ nar .char (own_ch x) < 0 ∧ ¬ (255 : Int32) < nar .char (own_ch x) := by
  have a := own_ch_in x
  have c := c_i2c (own_ch x)
  have k : (255 : Int32).toInt = 255 := by decide
  have z : (0 : Int32).toInt = 0 := by decide
  have e : nar .char (own_ch x) = (own_ch x).toUInt32.toUInt16.toUInt32.toInt32 := rfl
  rw [e, Int32.lt_iff_toInt_lt, Int32.lt_iff_toInt_lt]
  omega
theorem own_hp1 (x : Int32) : ∀ c ∈ ([nar .char (own_ch x)] : List Int32), ¬ c < 0 ∧ ¬ (255 : Int32) < c := fun c hc => by
  simp only [List.mem_cons, List.not_mem_nil, or_false] at hc
  subst hc
  exact own_ch_rng _
theorem own_hp2 (x y : Int32) : ∀ c ∈ ([nar .char (own_ch x), nar .char (own_ch y)] : List Int32), ¬ c < 0 ∧ ¬ (255 : Int32) < c := fun c hc => by
  simp only [List.mem_cons, List.not_mem_nil, or_false] at hc
  rcases hc with rfl | rfl <;> exact own_ch_rng _
theorem own_hp3 (x y z : Int32) : ∀ c ∈ ([nar .char (own_ch x), nar .char (own_ch y), nar .char (own_ch z)] : List Int32), ¬ c < 0 ∧ ¬ (255 : Int32) < c := fun c hc => by
  simp only [List.mem_cons, List.not_mem_nil, or_false] at hc
  rcases hc with rfl | rfl | rfl <;> exact own_ch_rng _
theorem own_hws (Z : State) (a0 : Array Value) (hw : ∀ d ∈ tables_1, d.before a0 Z = true) : ∀ d ∈ StrChars.Road.words, d.before a0 Z = true := fun d hd => hw d ((by decide +kernel : ∀ d ∈ StrChars.Road.words, d ∈ tables_1) d hd)
def own_EL : List (String × Nat) := [("com/example/gentle_commit/gentlecommit/initiator/Message", 53), ("com/example/gentle_commit/gentlecommit/initiator/Message", 54), ("com/example/gentle_commit/gentlecommit/initiator/Message", 60), ("com/example/gentle_commit/gentlecommit/initiator/Message", 62), ("com/example/gentle_commit/gentlecommit/initiator/MessageDescribePinLaw", 14)]
theorem own_EW (Z : State) (a0 : Array Value) (hw : ∀ d ∈ tables_1, d.before a0 Z = true) : EW Z a0 own_EL := EW.cons (own_t hw 246 rfl) (by decide) (EW.cons (own_t hw 129 rfl) (by decide) (EW.cons (own_t hw 172 rfl) (by decide) (EW.cons (own_t hw 196 rfl) (by decide) (EW.cons (own_t hw 33 rfl) (by decide) (EW.nil)))))
theorem own_safe_null {Z : State} {vm : Vm} {h : Heap} {EL : List (String × Nat)} {x : Addr} (hal : Z.vm.Alike vm) (E : Exa Z h x "java/lang/String") (F : Fld Z h x "java/lang/String" "value" "[B" .null) : Safe Z EL vm h x := fun B => by
  obtain ⟨p, hp, u, a, hb, q, hqa, ⟨cS, ⟨⟨s1, s2, s3, ⟨cv, kv, iv, s4, s4'⟩, ⟨cc, kc, ic, s5, s5'⟩, s6, s7, s8, s9, s10, s11, s12, s13, s14, s15, s16⟩, hfS, hcS⟩, ⟨kS, k1, k2, k3⟩, hB, hbyt⟩, e⟩ := B
  rcases e with e | e
  · subst e
    obtain ⟨cell, cf, k, i, f, f1, f2, f3, f4, f5, f6, f7⟩ := F
    have ec : cell = q.sC := Option.some.inj (f1.symm.trans s1)
    obtain ⟨kv', z4⟩ := ff_back (U := Wst Z vm h) hal s4
    cases f2.symm.trans z4
    subst ec
    cases f7.symm.trans s8
  · subst e
    obtain ⟨cell, k, g1, g2, -⟩ := E
    have ec : cell = q.SA := Option.some.inj (g1.symm.trans s10)
    subst ec
    have hBZ : Z.vm.findClass "[B" = some q.SA.cls := by rw [← hal.findClass]; exact hB
    exact ids_ne g2 hBZ (by decide) rfl
def own_b (p : Int32) : Int32 := (nar .char (own_ch p)).toInt8.toInt32
def own_put (vd : List Value) (dp : Int32) (vs : List Value) (nn : Int32) : List Value := vd.take dp.toNatClampNeg ++ (List.range nn.toNatClampNeg).map (fun i => vs.getD ((0 : Int32).toNatClampNeg + i) (.int 0)) ++ vd.drop (dp.toNatClampNeg + nn.toNatClampNeg)
theorem own_shr0 (x : Int32) : x >>> ((0 : Int32) &&& 31) = x := by
  apply Int32.toBitVec_inj.mp
  simp
theorem own_shl0 (x : Int32) : x <<< ((0 : Int32) &&& 31) = x := by
  apply Int32.toBitVec_inj.mp
  simp
theorem own_nil0 : ∀ c ∈ ([] : List Int32), ¬ c < 0 ∧ ¬ (255 : Int32) < c := fun c hc => nomatch hc
theorem own_cons {x : Int32} {l : List Int32} (h : ¬ x < 0 ∧ ¬ (255 : Int32) < x) (r : ∀ c ∈ l, ¬ c < 0 ∧ ¬ (255 : Int32) < c) : ∀ c ∈ x :: l, ¬ c < 0 ∧ ¬ (255 : Int32) < c := List.forall_mem_cons.mpr ⟨h, r⟩
theorem own_up {l : List Int32} (r : ∀ c ∈ l, ¬ c < 0 ∧ ¬ (255 : Int32) < c) : ∀ c ∈ l, ¬ c < 0 ∧ ¬ (65535 : Int32) < c := fun c hc => ⟨(r c hc).1, fun h => (r c hc).2 (by
  have k : (65535 : Int32).toInt = 65535 := by decide
  have k2 : (255 : Int32).toInt = 255 := by decide
  rw [Int32.lt_iff_toInt_lt] at *
  omega)⟩
theorem own_hwq (Z : State) (a0 : Array Value) (hw : ∀ d ∈ tables_1, d.before a0 Z = true) : ∀ d ∈ StrChars.Road.wordsEq, d.before a0 Z = true := fun d hd => hw d ((by decide +kernel : ∀ d ∈ StrChars.Road.wordsEq, d ∈ tables_1) d hd)
theorem own_selself {s : State} {args : Array Value} {K : String} {y : MethodName} (hsel : (Jvm.Cond.selects K y y).before args s = true) (hpr : (Jvm.Cond.privateMethod y).before args s = true) (hinst : (Jvm.Cond.instanceMethod y).before args s = true) (hy : y.cls ≠ "java/lang/invoke/MethodHandle" ∧ y.cls ≠ "java/lang/invoke/VarHandle") : (Jvm.Cond.selects y.cls y y).before args s = true := by
  obtain ⟨c2, r2, m2, q1, q2, q3, q4, kP, hkP, hkPi⟩ := Cond.selects_spec hsel
  exact selects_self_of_private (findClass_of_methodNamed q3) hkP hkPi (Cond.privateMethod_at hpr) hinst hy
theorem own_privBack {p : Program} {l : Launch} {e : Env} {R : Room} {s : State} {m : MethodId} {args : Array Value} {below : List Frame} {meth : Method} {c : Code} {T : State} {locs : List Loc} {cells slots : Nat} (X : Stand p l e R s m args below meth c T locs cells slots) (hexec : p.tables.exec = Jvm.exec) {own K : String} {index : Nat} {y : MethodName} {bytes : ByteArray} {maxL : Nat} {ret : Option FieldType}
    (hown : s.vm.findClass own = some m.cls) (hlink : (Jvm.Cond.methodLink own index y).before args s = true) (hpr : (Jvm.Cond.privateMethod y).before args s = true) (hsel : (Jvm.Cond.selects K y y).before args s = true) (hinst : (Jvm.Cond.instanceMethod y).before args s = true)
    (hcode : (Jvm.Cond.code y bytes maxL ret).before args s = true) (hy : y.cls ≠ "java/lang/invoke/MethodHandle" ∧ y.cls ≠ "java/lang/invoke/VarHandle")
    {W : Nat} {Pre : Pt → Array Value → Prop} {Post : Pt → Array Value → Option Value → Pt → Prop} (hK : Back l R p e below s args y 3 W Pre Post)
    {b : Addr} {cB : ClassId} (hrecv : IsOf cB T b) {g : JFrame} (hg : g.method = m) (hsize : g.locals.size = c.maxLocals) {s₀ : State} (hcome : Steps p.tables e below s₀ (T.setTop g))
    {argsL rest : List Value} (hlen : ∀ sig, parseMethodDescriptor y.desc = some sig → argsL.length = sig.parameters.length)
    (hstack : g.stack = argsL.reverse ++ .ref b :: rest) (hW : 2 * g.monitorRoom + (rest.map fun v => v.category).sum ≤ W) (hdg : decode c.code g.pc = .ok (.invokevirtual index, 3))
    (hpre : ∀ vm₁, s.WarmedH vm₁ → Pre ⟨T.setVm vm₁, locs, cells, slots⟩ (.ref b :: argsL).toArray) :
    ∃ (v : Option Value) (vm₁ : Vm) (B : Pt), s.WarmedH vm₁ ∧ Stand p l e R s m args below meth c B.U B.locs B.cells B.slots ∧ Post ⟨T.setVm vm₁, locs, cells, slots⟩ (.ref b :: argsL).toArray v B ∧
      Steps p.tables e below s₀ (B.U.setTop { g with pc := g.pc + 3, stack := v.toList ++ rest }) := by
  obtain ⟨cellB, h1, h2, h3⟩ := hrecv
  exact X.privateBack hexec hown hlink hinst (own_selself hsel hpr hinst hy) (Cond.privateMethod_at hpr) hcode hy hK hg hsize hcome h1 (fun q h => by rw [h] at h3; cases h3) hlen hstack hW hdg hpre
theorem own_gen {p : Program} {l : Launch} {e : Env} {R : Room} {s : State} {m : MethodId} {args : Array Value} {below : List Frame} {meth : Method} {c : Code} {T : State} {locs : List Loc} {cells slots n0 : Nat} (X : Stand p l e R s m args below meth c T locs cells slots) (N : Fr n0 locs) : ∃ L, Stand p l e R s m args below meth c T L cells slots ∧ Fr n0 L := ⟨locs, X, N⟩
theorem own_same {Z : State} {a0 : Array Value} {K : String} {y y2 : MethodName} (w : (Jvm.Cond.instanceMethod y).before a0 Z = true) (ws : (Jvm.Cond.selects K y2 y2).before a0 Z = true) (hc : y2.cls = y.cls) (hy : y.cls ≠ "java/lang/invoke/MethodHandle" ∧ y.cls ≠ "java/lang/invoke/VarHandle") : (Jvm.Cond.sameMethod y.cls y.cls y.name y.desc).before a0 Z = true := by
  obtain ⟨c2, r2, m2, q1, q2, q3, q4, kP, hkP, hkPi⟩ := Cond.selects_spec ws
  obtain ⟨mk, methM, hnamed, hmethM, -, -⟩ := Cond.instanceMethod_spec w
  have f1 := findClass_of_methodNamed q3
  have f2 := findClass_of_methodNamed hnamed
  rw [hc, f2] at f1
  have e : mk.cls = m2.cls := Option.some.inj f1
  have hfound : Z.methodFound? y.cls y.name y.desc = some mk := State.methodFound?_of_named hnamed hy
  rw [← e] at hkP
  simp [Cond.before, Cond.holds, Cond.value, f2, hfound, hnamed, hkP, hkPi]
theorem own_nf {s : State} {args : Array Value} {K : String} {y y2 : MethodName} (ws : (Jvm.Cond.selects K y2 y2).before args s = true) (hc : y2.cls = y.cls) : NotFace s y := fun r0 h0 => by
  obtain ⟨c2, r2, m2, q1, q2, q3, q4, kP, hkP, hkPi⟩ := Cond.selects_spec ws
  have f1 := findClass_of_methodNamed q3
  have f2 := findClass_of_methodNamed h0
  rw [hc, f2] at f1
  have e : r0.cls = m2.cls := Option.some.inj f1
  exact ⟨kP, by rw [e]; exact hkP, hkPi⟩
theorem own_exarv {Z : State} {a0 : Array Value} {h : Heap} {a b : Addr} {K : String} {n : Nat} {k : ClassId} {ty : FieldType} {z : Int32} {vs : List Value} {d : Value} (w : (Jvm.Cond.instantiable K n).before a0 Z = true) (E : Exa Z h a K) (V : Arv Z h b k ty z vs d) : a ≠ b := by
  rintro rfl
  obtain ⟨t, kt, g1, g2, g3, -⟩ := Cond.instantiable_spec w
  obtain ⟨cell, k2, e1, e2, e3, -⟩ := E
  obtain ⟨c, ⟨A1, ⟨-, kA, hkA, comp, hkind⟩, -⟩, -⟩ := V
  cases e1.symm.trans A1
  cases e2.symm.trans g1
  cases g2.symm.trans hkA
  rw [hkind] at g3
  cases g3
theorem own_exex {Z : State} {h : Heap} {a b : Addr} {K K' : String} (E : Exa Z h a K) (E' : Exa Z h b K') (hn : K ≠ K') : a ≠ b := by
  rintro rfl
  obtain ⟨cell, k2, e1, e2, -⟩ := E
  obtain ⟨cell', k2', e1', e2', -⟩ := E'
  cases e1.symm.trans e1'
  exact ids_ne e2 e2' hn rfl
theorem own_nst_exa {Z : State} {h : Heap} {a : Addr} {K : String} (E : Exa Z h a K) {st : Addr} {cell : Cell} (h1 : h[st]? = some cell) (h2 : cell.vm.isStatics = true) : st ≠ a := by
  rintro rfl
  obtain ⟨c2, _, g1, -, -, g4, -⟩ := E
  cases h1.symm.trans g1
  rw [h2] at g4; cases g4
theorem own_nst_arv {Z : State} {h : Heap} {a : Addr} {k : ClassId} {ty : FieldType} {z : Int32} {vs : List Value} {d : Value} (V : Arv Z h a k ty z vs d) {st : Addr} {cell : Cell} (h1 : h[st]? = some cell) (h2 : cell.vm.isStatics = true) : st ≠ a := by
  rintro rfl
  obtain ⟨c, ⟨A1, ⟨hst, -⟩, -⟩, -⟩ := V
  cases h1.symm.trans A1
  cases hq : cell.vm <;> first | (rw [hq] at h2; exact Bool.noConfusion h2) | exact hst _ hq
theorem own_bkexa {Z : State} {vm : Vm} {h : Heap} {EL : List (String × Nat)} {a b : Addr} {k : ClassId} {z : Int32} {vs : List Value} {d : Value} (hal : Z.vm.Alike vm) (V : Arv Z h b k .byte z vs d) (SN : ∀ x, Safe Z EL vm h x → x ≠ a ∧ x ≠ b) : Exa Z h b "[B" := by
  have B : Bk Z EL vm h b := Classical.byContradiction fun n => (SN b n).2 rfl
  obtain ⟨c, ⟨A1, ⟨hst, kA, hkA, compA, hkindA⟩, A3⟩, -⟩ := V
  obtain ⟨kA', hkA', ekA⟩ := hal.2.2 _ _ hkA
  obtain ⟨p, -, u, a', -, q, -, F, rfl | rfl⟩ := B
  · exfalso
    cases (show h[q.sa]? = some q.sC from F.ha).symm.trans A1
    obtain ⟨cS, ⟨-, -, e⟩, ⟨kS, g1, g2, -⟩, -⟩ := F
    subst e
    cases (show vm.classes[q.sC.cls]? = some kS from g1).symm.trans hkA'
    rw [ekA] at g2
    have := hkindA.symm.trans g2
    cases this
  · cases (show h[q.sd]? = some q.SA from F.hd).symm.trans A1
    obtain ⟨cS, -, -, f, -⟩ := F
    have f : vm.findClass "[B" = some q.SA.cls := f
    refine ⟨q.SA, kA, A1, by rw [← hal.findClass]; exact f, hkA, ?_, fun ho => by rw [hkindA] at ho; cases ho⟩
    cases hq : q.SA.vm <;> first | rfl | exact absurd hq (hst _)
theorem own_l32 : (nar .char 32).toInt8.toInt32 = 32 := by decide
theorem own_l45 : (nar .char 45).toInt8.toInt32 = 45 := by decide
theorem own_l97 : (nar .char 97).toInt8.toInt32 = 97 := by decide
theorem own_l98 : (nar .char 98).toInt8.toInt32 = 98 := by decide
theorem own_l99 : (nar .char 99).toInt8.toInt32 = 99 := by decide
theorem own_l101 : (nar .char 101).toInt8.toInt32 = 101 := by decide
theorem own_l102 : (nar .char 102).toInt8.toInt32 = 102 := by decide
theorem own_l103 : (nar .char 103).toInt8.toInt32 = 103 := by decide
theorem own_l105 : (nar .char 105).toInt8.toInt32 = 105 := by decide
theorem own_l108 : (nar .char 108).toInt8.toInt32 = 108 := by decide
theorem own_l109 : (nar .char 109).toInt8.toInt32 = 109 := by decide
theorem own_l110 : (nar .char 110).toInt8.toInt32 = 110 := by decide
theorem own_l111 : (nar .char 111).toInt8.toInt32 = 111 := by decide
theorem own_l114 : (nar .char 114).toInt8.toInt32 = 114 := by decide
theorem own_l115 : (nar .char 115).toInt8.toInt32 = 115 := by decide
theorem own_l116 : (nar .char 116).toInt8.toInt32 = 116 := by decide
theorem own_lst44 (p2 p3 p4 p5 : Int32) : ((([nar .char 114, nar .char 101, nar .char 108, nar .char 105, nar .char 97, nar .char 98, nar .char 108, nar .char 101, nar .char 32, nar .char 109, nar .char 101, nar .char 115, nar .char 115, nar .char 97, nar .char 103, nar .char 101, nar .char 32, nar .char (own_ch p2), nar .char (own_ch p3), nar .char 32, nar .char 111, nar .char 102, nar .char 32, nar .char 103, nar .char 108, nar .char 111, nar .char 98, nar .char 97, nar .char 108, nar .char 32, nar .char 116, nar .char 114, nar .char 97, nar .char 110, nar .char 115, nar .char 97, nar .char 99, nar .char 116, nar .char 105, nar .char 111, nar .char 110, nar .char 32, nar .char (own_ch p4), nar .char (own_ch p5)] : List Int32).map (fun c => c.toInt8.toInt32)).map Value.int) = [(.int 114), (.int 101), (.int 108), (.int 105), (.int 97), (.int 98), (.int 108), (.int 101), (.int 32), (.int 109), (.int 101), (.int 115), (.int 115), (.int 97), (.int 103), (.int 101), (.int 32), (.int (own_b p2)), (.int (own_b p3)), (.int 32), (.int 111), (.int 102), (.int 32), (.int 103), (.int 108), (.int 111), (.int 98), (.int 97), (.int 108), (.int 32), (.int 116), (.int 114), (.int 97), (.int 110), (.int 115), (.int 97), (.int 99), (.int 116), (.int 105), (.int 111), (.int 110), (.int 32), (.int (own_b p4)), (.int (own_b p5))] := by
  simp only [List.map_cons, List.map_nil, own_b, own_l32, own_l45, own_l97, own_l98, own_l99, own_l101, own_l102, own_l103, own_l105, own_l108, own_l109, own_l110, own_l111, own_l114, own_l115, own_l116]
theorem own_lst47 (p2 p3 p4 p5 : Int32) : ((([nar .char 98, nar .char 101, nar .char 115, nar .char 116, nar .char 45, nar .char 101, nar .char 102, nar .char 102, nar .char 111, nar .char 114, nar .char 116, nar .char 32, nar .char 109, nar .char 101, nar .char 115, nar .char 115, nar .char 97, nar .char 103, nar .char 101, nar .char 32, nar .char (own_ch p2), nar .char (own_ch p3), nar .char 32, nar .char 111, nar .char 102, nar .char 32, nar .char 103, nar .char 108, nar .char 111, nar .char 98, nar .char 97, nar .char 108, nar .char 32, nar .char 116, nar .char 114, nar .char 97, nar .char 110, nar .char 115, nar .char 97, nar .char 99, nar .char 116, nar .char 105, nar .char 111, nar .char 110, nar .char 32, nar .char (own_ch p4), nar .char (own_ch p5)] : List Int32).map (fun c => c.toInt8.toInt32)).map Value.int) = [(.int 98), (.int 101), (.int 115), (.int 116), (.int 45), (.int 101), (.int 102), (.int 102), (.int 111), (.int 114), (.int 116), (.int 32), (.int 109), (.int 101), (.int 115), (.int 115), (.int 97), (.int 103), (.int 101), (.int 32), (.int (own_b p2)), (.int (own_b p3)), (.int 32), (.int 111), (.int 102), (.int 32), (.int 103), (.int 108), (.int 111), (.int 98), (.int 97), (.int 108), (.int 32), (.int 116), (.int 114), (.int 97), (.int 110), (.int 115), (.int 97), (.int 99), (.int 116), (.int 105), (.int 111), (.int 110), (.int 32), (.int (own_b p4)), (.int (own_b p5))] := by
  simp only [List.map_cons, List.map_nil, own_b, own_l32, own_l45, own_l97, own_l98, own_l99, own_l101, own_l102, own_l103, own_l105, own_l108, own_l109, own_l110, own_l111, own_l114, own_l115, own_l116]
theorem d42_152_0 : decode jdk_42_method_152_code 0 = .ok (.getstatic 38, 3) := by decide +kernel
theorem d42_152_3 : decode jdk_42_method_152_code 3 = .ok (.ifCond .eq 10, 3) := by decide +kernel
theorem d42_152_6 : decode jdk_42_method_152_code 6 = .ok (.aload_n 0, 1) := by decide +kernel
theorem d42_152_7 : decode jdk_42_method_152_code 7 = .ok (.getfield 15, 3) := by decide +kernel
theorem d42_152_10 : decode jdk_42_method_152_code 10 = .ok (.goto 4, 3) := by decide +kernel
theorem d42_152_14 : decode jdk_42_method_152_code 14 = .ok (.ireturn, 1) := by decide +kernel
def Q_rmCo (Z : State) (a1 : Addr) (zc : Int32) (h0 : Heap) (n0 : Nat) (v : Option Value) (h : Heap) (L : List Loc) : Prop := v = some (.int 0) ∧ Fr n0 L ∧ h = h0
theorem pn_0 : plainName "java/lang/String" = true := by first | (simp [plainName, overriddenIn]; done) | decide +kernel
theorem ef_0 (m : MethodId) (x0 : Addr) : entryFrame m #[(.ref x0)] 1 = mkF m 0 #[.val (.ref x0)] [] := by first | (simp [entryFrame, mkF, argsToLocals, Value.category]; done) | rfl
set_option maxRecDepth 65536 in
set_option maxHeartbeats 40000000 in
theorem rmCo (l : Launch) (Z : State) (a0 : Array Value) (hw : ∀ d ∈ tables_1, d.before a0 Z = true) (ws : List Jvm.Cond) (a1 : Addr) (zc : Int32) (h0 : Heap) (n0 : Nat) (Z0 : n0 ≤ h0.size) (S_COMPACT_STRINGS_ : Sta Z h0 "java/lang/String" "COMPACT_STRINGS" "Z" (.int zc)) (hzc : ¬ zc = 0) (F_coder_a1 : Fld Z h0 a1 "java/lang/String" "coder" "B" (.int 0)) :
    MetFree l (⟨"java/lang/String", "coder", "()B"⟩ : MethodName) (head1 (Jvm.Cond.code (⟨"java/lang/String", "coder", "()B"⟩ : MethodName) jdk_42_method_152_code 1 (some .byte) :: ws) ({ frames := 0, cells := 0, slots := 0, locals := 0 } : Room)) (fun a U => a = #[(.ref a1)] ∧ Z.Warmed39 U.vm ∧ U.heap = h0) (fun _ _ _ _ _ => True) (fun _ U o U' => ∃ v L, o = .returned v ∧ Q_rmCo Z a1 zc h0 n0 v U'.heap L ∧ FrameEnd U o U' L ({ frames := 0, cells := 0, slots := 0, locals := 0 } : Room).cells ({ frames := 0, cells := 0, slots := 0, locals := 0 } : Room).slots) := by
  refine MetFree.of_bodySF (plainFor_of_name pn_0) hisR ?_
  intro p e s m args below meth c s₁ Bd hml0 hP hK
  obtain ⟨rfl, hZ, hh⟩ := hP
  have hx := Bd.exec
  have hby := Bd.bytes
  have hml : c.maxLocals = 1 := hml0
  have hown : s.vm.findClass "java/lang/String" = some m.cls := findClass_of_methodNamed Bd.named
  have hnm := (name_of_methodNamed Bd.named Bd.method).1
  have X0 : Stand p l e ({ frames := 0, cells := 0, slots := 0, locals := 0 } : Room) s m #[(.ref a1)] below meth c s₁ [] 0 0 := Stand.of_body Bd
  have e0 : s₁.heap = h0 := by rw [← hh, Bd.state]; rfl
  have N0 := Fr.nil n0
  have pre0 : ∀ t, Steps p.tables e below (s₁.setTop (mkF m 0 #[.val (.ref a1)] [])) t → Steps p.tables e below (s₁.setTop (entryFrame m #[(.ref a1)] 1)) t := fun t k => castTop (ef_0 m a1) k
  obtain ⟨T1, X1, e1, st1⟩ := getS2 X0 hx hZ hown (host := "") (Or.inl (own_t hw 14 rfl)) Via.refl e0 S_COMPACT_STRINGS_ (g := (mkF m 0 #[.val (.ref a1)] [])) rfl (hb hby d42_152_0)
  obtain ⟨T2, X2, e2, st2⟩ := getF X1 hx hZ hown (host := "") (Or.inl (own_t hw 26 rfl)) Via.refl e1 F_coder_a1 (g := (mkF m 7 #[.val (.ref a1)] [(.ref a1)])) rfl rfl (hb hby d42_152_7)
  obtain ⟨fs, hr, hrun, hended, hW, hsame⟩ := X2.leave (v := some (.int 0)) (fun h => by rw [Bd.returns] at h; cases h)
  refine ⟨_, _, pre0 _ ?_, hrun, hended, _, _, rfl, ?_, ⟨_, rfl⟩, hW, hsame.mono (by decide) (by decide)⟩
  · show Steps p.tables e below (s₁.setTop (mkF m 0 #[.val (.ref a1)] [])) _
    refine st1 _ ?_
    show Steps p.tables e below (T1.setTop (mkF m 3 #[.val (.ref a1)] [(.int zc)])) _
    refine XS.ifNo X1.here hx rfl (hb hby d42_152_3) rfl ((if0 _ _).trans (feq hzc).1) ?_
    show Steps p.tables e below (T1.setTop (mkF m 6 #[.val (.ref a1)] [])) _
    refine XS.aloadN X1.here hx rfl (hb hby d42_152_6) rfl rfl ?_
    refine st2 _ ?_
    show Steps p.tables e below (T2.setTop (mkF m 10 #[.val (.ref a1)] [(.int 0)])) _
    refine XS.goto X2.here hx rfl (pc0 := 10) (pc' := 14) rfl (hb hby d42_152_10) (by decide) (by decide) ?_
    show Steps p.tables e below (T2.setTop (mkF m 14 #[.val (.ref a1)] [(.int 0)])) _
    exact retN X2 hx (t := .byte) Bd.returns (by simp) (hb hby d42_152_14) hr
  · show Q_rmCo Z a1 zc h0 n0 _ T2.heap _
    rw [e2]
    exact ⟨rfl, N0, rfl⟩
theorem d42_54_0 : decode jdk_42_method_54_code 0 = .ok (.aload_n 0, 1) := by decide +kernel
theorem d42_54_1 : decode jdk_42_method_54_code 1 = .ok (.getfield 9, 3) := by decide +kernel
theorem d42_54_4 : decode jdk_42_method_54_code 4 = .ok (.arraylength, 1) := by decide +kernel
theorem d42_54_5 : decode jdk_42_method_54_code 5 = .ok (.aload_n 0, 1) := by decide +kernel
theorem d42_54_6 : decode jdk_42_method_54_code 6 = .ok (.invokevirtual 335, 3) := by decide +kernel
theorem pd_0 : parseMethodDescriptor "()B" = some ⟨[], some .byte⟩ := by decide +kernel
theorem d42_54_9 : decode jdk_42_method_54_code 9 = .ok (.ishr, 1) := by decide +kernel
theorem d42_54_10 : decode jdk_42_method_54_code 10 = .ok (.ireturn, 1) := by decide +kernel
def Q_rmLn (Z : State) (a2 : Addr) (t2 : Addr) (k2 : ClassId) (z : Int32) (L2 : List Value) (zc : Int32) (h0 : Heap) (n0 : Nat) (v : Option Value) (h : Heap) (L : List Loc) : Prop := v = some (.int z) ∧ Fr n0 L ∧ h = h0
set_option maxRecDepth 65536 in
set_option maxHeartbeats 40000000 in
theorem rmLn (l : Launch) (Z : State) (a0 : Array Value) (hw : ∀ d ∈ tables_1, d.before a0 Z = true) (ws : List Jvm.Cond) (a2 : Addr) (t2 : Addr) (k2 : ClassId) (z : Int32) (L2 : List Value) (zc : Int32) (h0 : Heap) (n0 : Nat) (Z0 : n0 ≤ h0.size) (E_a2 : Exa Z h0 a2 "java/lang/String") (F_value_a2 : Fld Z h0 a2 "java/lang/String" "value" "[B" (.ref t2)) (F_coder_a2 : Fld Z h0 a2 "java/lang/String" "coder" "B" (.int 0)) (V_t2 : Arv Z h0 t2 k2 .byte z L2 (.int 0)) (S_COMPACT_STRINGS_ : Sta Z h0 "java/lang/String" "COMPACT_STRINGS" "Z" (.int zc)) (hzc : ¬ zc = 0) :
    MetFree l (⟨"java/lang/String", "length", "()I"⟩ : MethodName) (head1 (Jvm.Cond.code (⟨"java/lang/String", "length", "()I"⟩ : MethodName) jdk_42_method_54_code 1 (some .int) :: ws) ({ frames := 1, cells := 0, slots := 0, locals := 13 } : Room)) (fun a U => a = #[(.ref a2)] ∧ Z.Warmed39 U.vm ∧ U.heap = h0) (fun _ _ _ _ _ => True) (fun _ U o U' => ∃ v L, o = .returned v ∧ Q_rmLn Z a2 t2 k2 z L2 zc h0 n0 v U'.heap L ∧ FrameEnd U o U' L ({ frames := 1, cells := 0, slots := 0, locals := 13 } : Room).cells ({ frames := 1, cells := 0, slots := 0, locals := 13 } : Room).slots) := by
  refine MetFree.of_bodySF (plainFor_of_name pn_0) hisR ?_
  intro p e s m args below meth c s₁ Bd hml0 hP hK
  obtain ⟨rfl, hZ, hh⟩ := hP
  have hx := Bd.exec
  have hby := Bd.bytes
  have hml : c.maxLocals = 1 := hml0
  have hown : s.vm.findClass "java/lang/String" = some m.cls := findClass_of_methodNamed Bd.named
  have hnm := (name_of_methodNamed Bd.named Bd.method).1
  have X0 : Stand p l e ({ frames := 1, cells := 0, slots := 0, locals := 13 } : Room) s m #[(.ref a2)] below meth c s₁ [] 0 0 := Stand.of_body Bd
  have e0 : s₁.heap = h0 := by rw [← hh, Bd.state]; rfl
  have N0 := Fr.nil n0
  have pre0 : ∀ t, Steps p.tables e below (s₁.setTop (mkF m 0 #[.val (.ref a2)] [])) t → Steps p.tables e below (s₁.setTop (entryFrame m #[(.ref a2)] 1)) t := fun t k => castTop (ef_0 m a2) k
  obtain ⟨T1, X1, e1, st1⟩ := getF X0 hx hZ hown (host := "") (Or.inl (own_t hw 28 rfl)) Via.refl e0 F_value_a2 (g := (mkF m 1 #[.val (.ref a2)] [(.ref a2)])) rfl rfl (hb hby d42_54_1)
  obtain ⟨cl2, Ar2, q2, S2, M2, H2, G2⟩ := id V_t2
  obtain ⟨cq3, kq3, q3a, q3b, q3c⟩ := isOf hZ e1 E_a2
  obtain ⟨_, _, ⟨T3, LL3, kk3, nn3⟩, -, X3, ⟨Lc3, hQ3, l3, y3, z3⟩, st3⟩ := X1.virtualBack hx (y := (⟨"java/lang/String", "coder", "()B"⟩ : MethodName)) (z := (⟨"java/lang/String", "coder", "()B"⟩ : MethodName)) hown (mvT hZ (own_t hw 62 rfl)) (mvT hZ (own_t hw 63 rfl)) (notFace_of_selects (args := #[]) (mvT hZ (own_t hw 65 rfl))) (mvT hZ (own_t hw 65 rfl)) (mvT hZ (own_t hw 64 rfl)) (by decide) (backOf (W := 1) (rmCo l Z a0 hw [] a2 zc h0 n0 Z0 S_COMPACT_STRINGS_ (hzc) F_coder_a2) hZ (own_t hw 66 rfl) (own_t hw 3 rfl) (by decide) (by decide)) q3a q3c (g := (mkF m 6 #[.val (.ref a2)] [(.ref a2), (.int z)])) rfl (by rw [hml]; rfl) (Steps.refl _) (argsL := []) (rest := [(.int z)]) (lenOf pd_0 rfl) rfl (by show 2 * 0 + _ ≤ _; exact Nat.le_of_eq rfl) (hb hby d42_54_6) (fun _ _ => ⟨rfl, e1, (by decide : 0 + 0 ≤ _), (by decide : 0 + 0 ≤ _)⟩)
  dsimp only [Pt.U, Pt.locs, Pt.cells, Pt.slots] at X3 l3 y3 z3 st3 hQ3
  subst l3 y3 z3
  obtain ⟨rfl, N3q, e3⟩ := hQ3
  have N3 := Fr.app N0 N3q
  obtain ⟨fs, hr, hrun, hended, hW, hsame⟩ := X3.leave (v := some (.int z)) (fun h => by rw [Bd.returns] at h; cases h)
  refine ⟨_, _, pre0 _ ?_, hrun, hended, _, _, rfl, ?_, ⟨_, rfl⟩, hW, hsame.mono (by decide) (by decide)⟩
  · show Steps p.tables e below (s₁.setTop (mkF m 0 #[.val (.ref a2)] [])) _
    refine XS.aloadN X0.here hx rfl (hb hby d42_54_0) rfl rfl ?_
    refine st1 _ ?_
    show Steps p.tables e below (T1.setTop (mkF m 4 #[.val (.ref a2)] [(.ref t2)])) _
    refine X1.arraylength hx (by rw [e1]; exact Ar2.1) (State.isArrayOf_alike hZ.alike Ar2.2.1) (g := (mkF m 4 #[.val (.ref a2)] [(.ref t2)])) rfl rfl (hb hby d42_54_4) _ ?_
    rw [len_of S2 M2]
    show Steps p.tables e below (T1.setTop (mkF m 5 #[.val (.ref a2)] [(.int z)])) _
    refine XS.aloadN X1.here hx rfl (hb hby d42_54_5) rfl rfl ?_
    refine st3.trans ?_
    show Steps p.tables e below (T3.setTop (mkF m 9 #[.val (.ref a2)] [(.int 0), (.int z)])) _
    refine XS.ishr X3.here hx rfl (hb hby d42_54_9) rfl ?_
    rw [own_shr0]
    show Steps p.tables e below (T3.setTop (mkF m 10 #[.val (.ref a2)] [(.int z)])) _
    exact retI X3 hx Bd.returns (hb hby d42_54_10) hr
  · show Q_rmLn Z a2 t2 k2 z L2 zc h0 n0 _ T3.heap _
    rw [e3]
    exact ⟨rfl, N3, rfl⟩
theorem d42_147_0 : decode jdk_42_method_147_code 0 = .ok (.aload_n 0, 1) := by decide +kernel
theorem d42_147_1 : decode jdk_42_method_147_code 1 = .ok (.invokevirtual 335, 3) := by decide +kernel
theorem d42_147_4 : decode jdk_42_method_147_code 4 = .ok (.iload_n 3, 1) := by decide +kernel
theorem d42_147_5 : decode jdk_42_method_147_code 5 = .ok (.if_icmp .ne 23, 3) := by decide +kernel
theorem d42_147_8 : decode jdk_42_method_147_code 8 = .ok (.aload_n 0, 1) := by decide +kernel
theorem d42_147_9 : decode jdk_42_method_147_code 9 = .ok (.getfield 9, 3) := by decide +kernel
theorem d42_147_12 : decode jdk_42_method_147_code 12 = .ok (.iconst 0, 1) := by decide +kernel
theorem d42_147_13 : decode jdk_42_method_147_code 13 = .ok (.aload_n 1, 1) := by decide +kernel
theorem d42_147_14 : decode jdk_42_method_147_code 14 = .ok (.iload_n 2, 1) := by decide +kernel
theorem d42_147_15 : decode jdk_42_method_147_code 15 = .ok (.iload_n 3, 1) := by decide +kernel
theorem d42_147_16 : decode jdk_42_method_147_code 16 = .ok (.ishl, 1) := by decide +kernel
theorem d42_147_17 : decode jdk_42_method_147_code 17 = .ok (.aload_n 0, 1) := by decide +kernel
theorem d42_147_18 : decode jdk_42_method_147_code 18 = .ok (.getfield 9, 3) := by decide +kernel
theorem d42_147_21 : decode jdk_42_method_147_code 21 = .ok (.arraylength, 1) := by decide +kernel
theorem d42_147_22 : decode jdk_42_method_147_code 22 = .ok (.invokestatic 212, 3) := by decide +kernel
theorem d42_147_25 : decode jdk_42_method_147_code 25 = .ok (.goto 18, 3) := by decide +kernel
theorem d42_147_43 : decode jdk_42_method_147_code 43 = .ok (.return_, 1) := by decide +kernel
def Q_rmGB (Z : State) (a2 : Addr) (t1 : Addr) (cn : Int32) (t2 : Addr) (k2 : ClassId) (z : Int32) (L2 : List Value) (k1 : ClassId) (cap : Int32) (L1 : List Value) (L3 : List Value) (zc : Int32) (h0 : Heap) (n0 : Nat) (v : Option Value) (h : Heap) (L : List Loc) : Prop := v = none ∧ Fr n0 L ∧ Keep h0 h [t1] ∧ Arv Z h t1 k1 .byte cap L3 (.int 0)
theorem ef_1 (m : MethodId) (x0 : Addr) (x1 : Addr) (x2 : Int32) (x3 : Int32) : entryFrame m #[(.ref x0), (.ref x1), (.int x2), (.int x3)] 4 = mkF m 0 #[.val (.ref x0), .val (.ref x1), .val (.int x2), .val (.int x3)] [] := by first | (simp [entryFrame, mkF, argsToLocals, Value.category]; done) | rfl
set_option maxRecDepth 65536 in
set_option maxHeartbeats 40000000 in
theorem rmGB (l : Launch) (Z : State) (a0 : Array Value) (hw : ∀ d ∈ tables_1, d.before a0 Z = true) (ws : List Jvm.Cond) (a2 : Addr) (t1 : Addr) (cn : Int32) (t2 : Addr) (k2 : ClassId) (z : Int32) (L2 : List Value) (k1 : ClassId) (cap : Int32) (L1 : List Value) (L3 : List Value) (zc : Int32) (h0 : Heap) (n0 : Nat) (Z0 : n0 ≤ h0.size) (E_a2 : Exa Z h0 a2 "java/lang/String") (F_value_a2 : Fld Z h0 a2 "java/lang/String" "value" "[B" (.ref t2)) (F_coder_a2 : Fld Z h0 a2 "java/lang/String" "coder" "B" (.int 0)) (V_t2 : Arv Z h0 t2 k2 .byte z L2 (.int 0)) (V_t1 : Arv Z h0 t1 k1 .byte cap L1 (.int 0)) (g_t1 : n0 ≤ t1) (S_COMPACT_STRINGS_ : Sta Z h0 "java/lang/String" "COMPACT_STRINGS" "Z" (.int zc)) (hzc : ¬ zc = 0) (hpos : ¬ cn < 0) (hz : ¬ z < 0) (h5 : (cn).toNatClampNeg + (z).toNatClampNeg ≤ (cap).toNatClampNeg) (hl : (cn).toNatClampNeg + (z).toNatClampNeg ≤ (L1).length) (hL : own_put L1 cn L2 z = L3) :
    MetFree l (⟨"java/lang/String", "getBytes", "([BIB)V"⟩ : MethodName) (head1 (Jvm.Cond.code (⟨"java/lang/String", "getBytes", "([BIB)V"⟩ : MethodName) jdk_42_method_147_code 4 none :: ws) ({ frames := 1, cells := 0, slots := 0, locals := 18 } : Room)) (fun a U => a = #[(.ref a2), (.ref t1), (.int cn), (.int 0)] ∧ Z.Warmed39 U.vm ∧ U.heap = h0) (fun _ _ _ _ _ => True) (fun _ U o U' => ∃ v L, o = .returned v ∧ Q_rmGB Z a2 t1 cn t2 k2 z L2 k1 cap L1 L3 zc h0 n0 v U'.heap L ∧ FrameEnd U o U' L ({ frames := 1, cells := 0, slots := 0, locals := 18 } : Room).cells ({ frames := 1, cells := 0, slots := 0, locals := 18 } : Room).slots) := by
  refine MetFree.of_bodySF (plainFor_of_name pn_0) hisR ?_
  intro p e s m args below meth c s₁ Bd hml0 hP hK
  obtain ⟨rfl, hZ, hh⟩ := hP
  have hx := Bd.exec
  have hby := Bd.bytes
  have hml : c.maxLocals = 4 := hml0
  have hown : s.vm.findClass "java/lang/String" = some m.cls := findClass_of_methodNamed Bd.named
  have hnm := (name_of_methodNamed Bd.named Bd.method).1
  have X0 : Stand p l e ({ frames := 1, cells := 0, slots := 0, locals := 18 } : Room) s m #[(.ref a2), (.ref t1), (.int cn), (.int 0)] below meth c s₁ [] 0 0 := Stand.of_body Bd
  have e0 : s₁.heap = h0 := by rw [← hh, Bd.state]; rfl
  have N0 := Fr.nil n0
  have pre0 : ∀ t, Steps p.tables e below (s₁.setTop (mkF m 0 #[.val (.ref a2), .val (.ref t1), .val (.int cn), .val (.int 0)] [])) t → Steps p.tables e below (s₁.setTop (entryFrame m #[(.ref a2), (.ref t1), (.int cn), (.int 0)] 4)) t := fun t k => castTop (ef_1 m a2 t1 cn (0 : Int32)) k
  obtain ⟨cq1, kq1, q1a, q1b, q1c⟩ := isOf hZ e0 E_a2
  obtain ⟨_, _, ⟨T1, LL1, kk1, nn1⟩, -, X1, ⟨Lc1, hQ1, l1, y1, z1⟩, st1⟩ := X0.virtualBack hx (y := (⟨"java/lang/String", "coder", "()B"⟩ : MethodName)) (z := (⟨"java/lang/String", "coder", "()B"⟩ : MethodName)) hown (mvT hZ (own_t hw 62 rfl)) (mvT hZ (own_t hw 63 rfl)) (notFace_of_selects (args := #[]) (mvT hZ (own_t hw 65 rfl))) (mvT hZ (own_t hw 65 rfl)) (mvT hZ (own_t hw 64 rfl)) (by decide) (backOf (W := 0) (rmCo l Z a0 hw [] a2 zc h0 n0 Z0 S_COMPACT_STRINGS_ (hzc) F_coder_a2) hZ (own_t hw 66 rfl) (own_t hw 3 rfl) (by decide) (by decide)) q1a q1c (g := (mkF m 1 #[.val (.ref a2), .val (.ref t1), .val (.int cn), .val (.int 0)] [(.ref a2)])) rfl (by rw [hml]; rfl) (Steps.refl _) (argsL := []) (rest := []) (lenOf pd_0 rfl) rfl (by show 2 * 0 + _ ≤ _; exact Nat.le_of_eq rfl) (hb hby d42_147_1) (fun _ _ => ⟨rfl, e0, (by decide : 0 + 0 ≤ _), (by decide : 0 + 0 ≤ _)⟩)
  dsimp only [Pt.U, Pt.locs, Pt.cells, Pt.slots] at X1 l1 y1 z1 st1 hQ1
  subst l1 y1 z1
  obtain ⟨rfl, N1q, e1⟩ := hQ1
  have N1 := Fr.app N0 N1q
  obtain ⟨T2, X2, e2, st2⟩ := getF X1 hx hZ hown (host := "") (Or.inl (own_t hw 28 rfl)) Via.refl e1 F_value_a2 (g := (mkF m 9 #[.val (.ref a2), .val (.ref t1), .val (.int cn), .val (.int 0)] [(.ref a2)])) rfl rfl (hb hby d42_147_9)
  obtain ⟨T3, X3, e3, st3⟩ := getF X2 hx hZ hown (host := "") (Or.inl (own_t hw 28 rfl)) Via.refl e2 F_value_a2 (g := (mkF m 18 #[.val (.ref a2), .val (.ref t1), .val (.int cn), .val (.int 0)] [(.ref a2), (.int cn), (.ref t1), (.int 0), (.ref t2)])) rfl rfl (hb hby d42_147_18)
  obtain ⟨cl4, Ar4, q4, S4, M4, H4, G4⟩ := id V_t2
  obtain ⟨T5, h5, L5, X5, e5, N5, K5, V5, st5⟩ := cpA X3 hx hZ hown (own_t hw 168 rfl) (own_t hw 171 rfl) (own_t hw 169 rfl) (own_t hw 170 rfl) e3 V_t2 V_t1 (Or.inl ⟨rfl, rfl⟩) (by decide) hpos hz (by simp) h5 (us := ((List.range (z).toNatClampNeg).map fun i => (L2).getD (((0 : Int32)).toNatClampNeg + i) (.int 0))) rfl hl N1 g_t1 (g := (mkF m 22 #[.val (.ref a2), .val (.ref t1), .val (.int cn), .val (.int 0)] [(.int z), (.int cn), (.ref t1), (.int 0), (.ref t2)])) rfl (by rw [hml]; rfl) rfl (hb hby d42_147_22) (by decide) (W := 0) (by show 2 * 0 + _ ≤ _; exact Nat.le_of_eq rfl) (by decide)
  have Q5 : Keep h0 h5 [t1] := (Keep.refl h0 [t1]).trans K5 (allS (Or.inl (List.mem_of_getElem? (i := 0) rfl)) all0)
  obtain ⟨fs, hr, hrun, hended, hW, hsame⟩ := X5.leave (v := none) (fun _ => rfl)
  refine ⟨_, _, pre0 _ ?_, hrun, hended, _, _, rfl, ?_, ⟨_, rfl⟩, hW, hsame.mono (by decide) (by decide)⟩
  · show Steps p.tables e below (s₁.setTop (mkF m 0 #[.val (.ref a2), .val (.ref t1), .val (.int cn), .val (.int 0)] [])) _
    refine XS.aloadN X0.here hx rfl (hb hby d42_147_0) rfl rfl ?_
    refine st1.trans ?_
    show Steps p.tables e below (T1.setTop (mkF m 4 #[.val (.ref a2), .val (.ref t1), .val (.int cn), .val (.int 0)] [(.int 0)])) _
    refine XS.iloadN X1.here hx rfl (hb hby d42_147_4) rfl ?_
    refine XS.icmpNo X1.here hx rfl (hb hby d42_147_5) rfl (teq (by decide : (0 : Int32) = (0 : Int32))).2 ?_
    show Steps p.tables e below (T1.setTop (mkF m 8 #[.val (.ref a2), .val (.ref t1), .val (.int cn), .val (.int 0)] [])) _
    refine XS.aloadN X1.here hx rfl (hb hby d42_147_8) rfl rfl ?_
    refine st2 _ ?_
    show Steps p.tables e below (T2.setTop (mkF m 12 #[.val (.ref a2), .val (.ref t1), .val (.int cn), .val (.int 0)] [(.ref t2)])) _
    refine XS.iconst X2.here hx rfl (hb hby d42_147_12) ?_
    refine XS.aloadN X2.here hx rfl (hb hby d42_147_13) rfl rfl ?_
    refine XS.iloadN X2.here hx rfl (hb hby d42_147_14) rfl ?_
    refine XS.iloadN X2.here hx rfl (hb hby d42_147_15) rfl ?_
    refine XS.ishl X2.here hx rfl (hb hby d42_147_16) rfl ?_
    rw [own_shl0]
    show Steps p.tables e below (T2.setTop (mkF m 17 #[.val (.ref a2), .val (.ref t1), .val (.int cn), .val (.int 0)] [(.int cn), (.ref t1), (.int 0), (.ref t2)])) _
    refine XS.aloadN X2.here hx rfl (hb hby d42_147_17) rfl rfl ?_
    refine st3 _ ?_
    show Steps p.tables e below (T3.setTop (mkF m 21 #[.val (.ref a2), .val (.ref t1), .val (.int cn), .val (.int 0)] [(.ref t2), (.int cn), (.ref t1), (.int 0), (.ref t2)])) _
    refine X3.arraylength hx (by rw [e3]; exact Ar4.1) (State.isArrayOf_alike hZ.alike Ar4.2.1) (g := (mkF m 21 #[.val (.ref a2), .val (.ref t1), .val (.int cn), .val (.int 0)] [(.ref t2), (.int cn), (.ref t1), (.int 0), (.ref t2)])) rfl rfl (hb hby d42_147_21) _ ?_
    rw [len_of S4 M4]
    show Steps p.tables e below (T3.setTop (mkF m 22 #[.val (.ref a2), .val (.ref t1), .val (.int cn), .val (.int 0)] [(.int z), (.int cn), (.ref t1), (.int 0), (.ref t2)])) _
    refine st5 _ ?_
    show Steps p.tables e below (T5.setTop (mkF m 25 #[.val (.ref a2), .val (.ref t1), .val (.int cn), .val (.int 0)] [])) _
    refine XS.goto X5.here hx rfl (pc0 := 25) (pc' := 43) rfl (hb hby d42_147_25) (by decide) (by decide) ?_
    show Steps p.tables e below (T5.setTop (mkF m 43 #[.val (.ref a2), .val (.ref t1), .val (.int cn), .val (.int 0)] [])) _
    exact X5.returnOut hx Bd.returns (hb hby d42_147_43) hr
  · show Q_rmGB Z a2 t1 cn t2 k2 z L2 k1 cap L1 L3 zc h0 n0 _ T5.heap _
    rw [e5]
    exact ⟨rfl, N5, Q5, (by rw [← hL]; exact V5)⟩
theorem d68_71_0 : decode jdk_68_method_71_code 0 = .ok (.getstatic 18, 3) := by decide +kernel
theorem d68_71_3 : decode jdk_68_method_71_code 3 = .ok (.ifCond .eq 18, 3) := by decide +kernel
theorem d68_71_6 : decode jdk_68_method_71_code 6 = .ok (.aload_n 0, 1) := by decide +kernel
theorem d68_71_7 : decode jdk_68_method_71_code 7 = .ok (.getfield 22, 3) := by decide +kernel
theorem d68_71_10 : decode jdk_68_method_71_code 10 = .ok (.aload_n 1, 1) := by decide +kernel
theorem d68_71_11 : decode jdk_68_method_71_code 11 = .ok (.invokevirtual 40, 3) := by decide +kernel
theorem d68_71_14 : decode jdk_68_method_71_code 14 = .ok (.if_icmp .eq 7, 3) := by decide +kernel
theorem d68_71_21 : decode jdk_68_method_71_code 21 = .ok (.return_, 1) := by decide +kernel
def Q_rmIn (Z : State) (a1 : Addr) (a2 : Addr) (zc : Int32) (h0 : Heap) (n0 : Nat) (v : Option Value) (h : Heap) (L : List Loc) : Prop := v = none ∧ Fr n0 L ∧ h = h0
theorem pn_1 : plainName "java/lang/AbstractStringBuilder" = true := by first | (simp [plainName, overriddenIn]; done) | decide +kernel
theorem ef_2 (m : MethodId) (x0 : Addr) (x1 : Addr) : entryFrame m #[(.ref x0), (.ref x1)] 2 = mkF m 0 #[.val (.ref x0), .val (.ref x1)] [] := by first | (simp [entryFrame, mkF, argsToLocals, Value.category]; done) | rfl
set_option maxRecDepth 65536 in
set_option maxHeartbeats 40000000 in
theorem rmIn (l : Launch) (Z : State) (a0 : Array Value) (hw : ∀ d ∈ tables_1, d.before a0 Z = true) (ws : List Jvm.Cond) (a1 : Addr) (a2 : Addr) (zc : Int32) (h0 : Heap) (n0 : Nat) (Z0 : n0 ≤ h0.size) (F_coder_a1 : Fld Z h0 a1 "java/lang/AbstractStringBuilder" "coder" "B" (.int 0)) (E_a2 : Exa Z h0 a2 "java/lang/String") (F_coder_a2 : Fld Z h0 a2 "java/lang/String" "coder" "B" (.int 0)) (S_COMPACT_STRINGS_ : Sta Z h0 "java/lang/String" "COMPACT_STRINGS" "Z" (.int zc)) (hzc : ¬ zc = 0) :
    MetFree l (⟨"java/lang/AbstractStringBuilder", "inflateIfNeededFor", "(Ljava/lang/String;)V"⟩ : MethodName) (head1 (Jvm.Cond.code (⟨"java/lang/AbstractStringBuilder", "inflateIfNeededFor", "(Ljava/lang/String;)V"⟩ : MethodName) jdk_68_method_71_code 2 none :: ws) ({ frames := 1, cells := 0, slots := 0, locals := 13 } : Room)) (fun a U => a = #[(.ref a1), (.ref a2)] ∧ Z.Warmed39 U.vm ∧ U.heap = h0) (fun _ _ _ _ _ => True) (fun _ U o U' => ∃ v L, o = .returned v ∧ Q_rmIn Z a1 a2 zc h0 n0 v U'.heap L ∧ FrameEnd U o U' L ({ frames := 1, cells := 0, slots := 0, locals := 13 } : Room).cells ({ frames := 1, cells := 0, slots := 0, locals := 13 } : Room).slots) := by
  refine MetFree.of_bodySF (plainFor_of_name pn_1) hisR ?_
  intro p e s m args below meth c s₁ Bd hml0 hP hK
  obtain ⟨rfl, hZ, hh⟩ := hP
  have hx := Bd.exec
  have hby := Bd.bytes
  have hml : c.maxLocals = 2 := hml0
  have hown : s.vm.findClass "java/lang/AbstractStringBuilder" = some m.cls := findClass_of_methodNamed Bd.named
  have hnm := (name_of_methodNamed Bd.named Bd.method).1
  have X0 : Stand p l e ({ frames := 1, cells := 0, slots := 0, locals := 13 } : Room) s m #[(.ref a1), (.ref a2)] below meth c s₁ [] 0 0 := Stand.of_body Bd
  have e0 : s₁.heap = h0 := by rw [← hh, Bd.state]; rfl
  have N0 := Fr.nil n0
  have pre0 : ∀ t, Steps p.tables e below (s₁.setTop (mkF m 0 #[.val (.ref a1), .val (.ref a2)] [])) t → Steps p.tables e below (s₁.setTop (entryFrame m #[(.ref a1), (.ref a2)] 2)) t := fun t k => castTop (ef_2 m a1 a2) k
  obtain ⟨T1, X1, e1, st1⟩ := getS2 X0 hx hZ hown (host := "") (Or.inl (own_t hw 124 rfl)) Via.refl e0 S_COMPACT_STRINGS_ (g := (mkF m 0 #[.val (.ref a1), .val (.ref a2)] [])) rfl (hb hby d68_71_0)
  obtain ⟨T2, X2, e2, st2⟩ := getF X1 hx hZ hown (host := "") (Or.inl (own_t hw 127 rfl)) Via.refl e1 F_coder_a1 (g := (mkF m 7 #[.val (.ref a1), .val (.ref a2)] [(.ref a1)])) rfl rfl (hb hby d68_71_7)
  obtain ⟨cq3, kq3, q3a, q3b, q3c⟩ := isOf hZ e2 E_a2
  obtain ⟨_, _, ⟨T3, LL3, kk3, nn3⟩, -, X3, ⟨Lc3, hQ3, l3, y3, z3⟩, st3⟩ := X2.virtualBack hx (y := (⟨"java/lang/String", "coder", "()B"⟩ : MethodName)) (z := (⟨"java/lang/String", "coder", "()B"⟩ : MethodName)) hown (mvT hZ (own_t hw 162 rfl)) (mvT hZ (own_t hw 63 rfl)) (notFace_of_selects (args := #[]) (mvT hZ (own_t hw 65 rfl))) (mvT hZ (own_t hw 65 rfl)) (mvT hZ (own_t hw 64 rfl)) (by decide) (backOf (W := 1) (rmCo l Z a0 hw [] a2 zc h0 n0 Z0 S_COMPACT_STRINGS_ (hzc) F_coder_a2) hZ (own_t hw 66 rfl) (own_t hw 3 rfl) (by decide) (by decide)) q3a q3c (g := (mkF m 11 #[.val (.ref a1), .val (.ref a2)] [(.ref a2), (.int 0)])) rfl (by rw [hml]; rfl) (Steps.refl _) (argsL := []) (rest := [(.int 0)]) (lenOf pd_0 rfl) rfl (by show 2 * 0 + _ ≤ _; exact Nat.le_of_eq rfl) (hb hby d68_71_11) (fun _ _ => ⟨rfl, e2, (by decide : 0 + 0 ≤ _), (by decide : 0 + 0 ≤ _)⟩)
  dsimp only [Pt.U, Pt.locs, Pt.cells, Pt.slots] at X3 l3 y3 z3 st3 hQ3
  subst l3 y3 z3
  obtain ⟨rfl, N3q, e3⟩ := hQ3
  have N3 := Fr.app N0 N3q
  obtain ⟨fs, hr, hrun, hended, hW, hsame⟩ := X3.leave (v := none) (fun _ => rfl)
  refine ⟨_, _, pre0 _ ?_, hrun, hended, _, _, rfl, ?_, ⟨_, rfl⟩, hW, hsame.mono (by decide) (by decide)⟩
  · show Steps p.tables e below (s₁.setTop (mkF m 0 #[.val (.ref a1), .val (.ref a2)] [])) _
    refine st1 _ ?_
    show Steps p.tables e below (T1.setTop (mkF m 3 #[.val (.ref a1), .val (.ref a2)] [(.int zc)])) _
    refine XS.ifNo X1.here hx rfl (hb hby d68_71_3) rfl ((if0 _ _).trans (feq hzc).1) ?_
    show Steps p.tables e below (T1.setTop (mkF m 6 #[.val (.ref a1), .val (.ref a2)] [])) _
    refine XS.aloadN X1.here hx rfl (hb hby d68_71_6) rfl rfl ?_
    refine st2 _ ?_
    show Steps p.tables e below (T2.setTop (mkF m 10 #[.val (.ref a1), .val (.ref a2)] [(.int 0)])) _
    refine XS.aloadN X2.here hx rfl (hb hby d68_71_10) rfl rfl ?_
    refine st3.trans ?_
    show Steps p.tables e below (T3.setTop (mkF m 14 #[.val (.ref a1), .val (.ref a2)] [(.int 0), (.int 0)])) _
    refine XS.icmpYes X3.here hx rfl (pc0 := 14) (pc' := 21) rfl (hb hby d68_71_14) rfl (teq (by decide : (0 : Int32) = (0 : Int32))).1 (by decide) (by decide) ?_
    show Steps p.tables e below (T3.setTop (mkF m 21 #[.val (.ref a1), .val (.ref a2)] [])) _
    exact X3.returnOut hx Bd.returns (hb hby d68_71_21) hr
  · show Q_rmIn Z a1 a2 zc h0 n0 _ T3.heap _
    rw [e3]
    exact ⟨rfl, N3, rfl⟩
theorem d68_73_0 : decode jdk_68_method_73_code 0 = .ok (.aload_n 0, 1) := by decide +kernel
theorem d68_73_1 : decode jdk_68_method_73_code 1 = .ok (.aload_n 2, 1) := by decide +kernel
theorem d68_73_2 : decode jdk_68_method_73_code 2 = .ok (.invokevirtual 397, 3) := by decide +kernel
theorem pd_1 : parseMethodDescriptor "(Ljava/lang/String;)V" = some ⟨[(.object "java/lang/String")], none⟩ := by decide +kernel
theorem d68_73_5 : decode jdk_68_method_73_code 5 = .ok (.aload_n 2, 1) := by decide +kernel
theorem d68_73_6 : decode jdk_68_method_73_code 6 = .ok (.aload_n 0, 1) := by decide +kernel
theorem d68_73_7 : decode jdk_68_method_73_code 7 = .ok (.getfield 15, 3) := by decide +kernel
theorem d68_73_10 : decode jdk_68_method_73_code 10 = .ok (.iload_n 1, 1) := by decide +kernel
theorem d68_73_11 : decode jdk_68_method_73_code 11 = .ok (.aload_n 0, 1) := by decide +kernel
theorem d68_73_12 : decode jdk_68_method_73_code 12 = .ok (.getfield 22, 3) := by decide +kernel
theorem d68_73_15 : decode jdk_68_method_73_code 15 = .ok (.invokevirtual 399, 3) := by decide +kernel
theorem pd_2 : parseMethodDescriptor "([BIB)V" = some ⟨[(.array .byte), .int, .byte], none⟩ := by decide +kernel
theorem d68_73_18 : decode jdk_68_method_73_code 18 = .ok (.return_, 1) := by decide +kernel
def Q_rmPS (Z : State) (a1 : Addr) (cn : Int32) (a2 : Addr) (t1 : Addr) (t2 : Addr) (k2 : ClassId) (z : Int32) (L2 : List Value) (k1 : ClassId) (cap : Int32) (L1 : List Value) (L3 : List Value) (zc : Int32) (h0 : Heap) (n0 : Nat) (v : Option Value) (h : Heap) (L : List Loc) : Prop := v = none ∧ Fr n0 L ∧ Keep h0 h [t1] ∧ Arv Z h t1 k1 .byte cap L3 (.int 0)
theorem ef_3 (m : MethodId) (x0 : Addr) (x1 : Int32) (x2 : Addr) : entryFrame m #[(.ref x0), (.int x1), (.ref x2)] 3 = mkF m 0 #[.val (.ref x0), .val (.int x1), .val (.ref x2)] [] := by first | (simp [entryFrame, mkF, argsToLocals, Value.category]; done) | rfl
set_option maxRecDepth 65536 in
set_option maxHeartbeats 40000000 in
theorem rmPS (l : Launch) (Z : State) (a0 : Array Value) (hw : ∀ d ∈ tables_1, d.before a0 Z = true) (ws : List Jvm.Cond) (a1 : Addr) (cn : Int32) (a2 : Addr) (t1 : Addr) (t2 : Addr) (k2 : ClassId) (z : Int32) (L2 : List Value) (k1 : ClassId) (cap : Int32) (L1 : List Value) (L3 : List Value) (zc : Int32) (h0 : Heap) (n0 : Nat) (Z0 : n0 ≤ h0.size) (E_a1 : Exa Z h0 a1 "java/lang/StringBuilder") (F_value_a1 : Fld Z h0 a1 "java/lang/AbstractStringBuilder" "value" "[B" (.ref t1)) (F_coder_a1 : Fld Z h0 a1 "java/lang/AbstractStringBuilder" "coder" "B" (.int 0)) (E_a2 : Exa Z h0 a2 "java/lang/String") (F_value_a2 : Fld Z h0 a2 "java/lang/String" "value" "[B" (.ref t2)) (F_coder_a2 : Fld Z h0 a2 "java/lang/String" "coder" "B" (.int 0)) (V_t2 : Arv Z h0 t2 k2 .byte z L2 (.int 0)) (V_t1 : Arv Z h0 t1 k1 .byte cap L1 (.int 0)) (g_t1 : n0 ≤ t1) (S_COMPACT_STRINGS_ : Sta Z h0 "java/lang/String" "COMPACT_STRINGS" "Z" (.int zc)) (hzc : ¬ zc = 0) (hpos : ¬ cn < 0) (hz : ¬ z < 0) (h5 : (cn).toNatClampNeg + (z).toNatClampNeg ≤ (cap).toNatClampNeg) (hl : (cn).toNatClampNeg + (z).toNatClampNeg ≤ (L1).length) (hL : own_put L1 cn L2 z = L3) :
    MetFree l (⟨"java/lang/AbstractStringBuilder", "putStringAt", "(ILjava/lang/String;)V"⟩ : MethodName) (head1 (Jvm.Cond.code (⟨"java/lang/AbstractStringBuilder", "putStringAt", "(ILjava/lang/String;)V"⟩ : MethodName) jdk_68_method_73_code 3 none :: ws) ({ frames := 2, cells := 0, slots := 0, locals := 33 } : Room)) (fun a U => a = #[(.ref a1), (.int cn), (.ref a2)] ∧ Z.Warmed39 U.vm ∧ U.heap = h0) (fun _ _ _ _ _ => True) (fun _ U o U' => ∃ v L, o = .returned v ∧ Q_rmPS Z a1 cn a2 t1 t2 k2 z L2 k1 cap L1 L3 zc h0 n0 v U'.heap L ∧ FrameEnd U o U' L ({ frames := 2, cells := 0, slots := 0, locals := 33 } : Room).cells ({ frames := 2, cells := 0, slots := 0, locals := 33 } : Room).slots) := by
  refine MetFree.of_bodySF (plainFor_of_name pn_1) hisR ?_
  intro p e s m args below meth c s₁ Bd hml0 hP hK
  obtain ⟨rfl, hZ, hh⟩ := hP
  have hx := Bd.exec
  have hby := Bd.bytes
  have hml : c.maxLocals = 3 := hml0
  have hown : s.vm.findClass "java/lang/AbstractStringBuilder" = some m.cls := findClass_of_methodNamed Bd.named
  have hnm := (name_of_methodNamed Bd.named Bd.method).1
  have X0 : Stand p l e ({ frames := 2, cells := 0, slots := 0, locals := 33 } : Room) s m #[(.ref a1), (.int cn), (.ref a2)] below meth c s₁ [] 0 0 := Stand.of_body Bd
  have e0 : s₁.heap = h0 := by rw [← hh, Bd.state]; rfl
  have N0 := Fr.nil n0
  have pre0 : ∀ t, Steps p.tables e below (s₁.setTop (mkF m 0 #[.val (.ref a1), .val (.int cn), .val (.ref a2)] [])) t → Steps p.tables e below (s₁.setTop (entryFrame m #[(.ref a1), (.int cn), (.ref a2)] 3)) t := fun t k => castTop (ef_3 m a1 cn a2) k
  obtain ⟨cq1, kq1, q1a, q1b, q1c⟩ := isOf hZ e0 E_a1
  obtain ⟨_, _, ⟨T1, LL1, kk1, nn1⟩, -, X1, ⟨Lc1, hQ1, l1, y1, z1⟩, st1⟩ := own_privBack X0 hx (y := (⟨"java/lang/AbstractStringBuilder", "inflateIfNeededFor", "(Ljava/lang/String;)V"⟩ : MethodName)) hown (mvT hZ (own_t hw 157 rfl)) (mvT hZ (own_t hw 159 rfl)) (mvT hZ (own_t hw 160 rfl)) (mvT hZ (own_t hw 158 rfl)) (mvT hZ (own_t hw 161 rfl)) (by decide) (backOf (W := 0) (rmIn l Z a0 hw [] a1 a2 zc h0 n0 Z0 F_coder_a1 E_a2 F_coder_a2 S_COMPACT_STRINGS_ (hzc)) hZ (own_t hw 161 rfl) (own_t hw 121 rfl) (by decide) (by decide)) q1c (g := (mkF m 2 #[.val (.ref a1), .val (.int cn), .val (.ref a2)] [(.ref a2), (.ref a1)])) rfl (by rw [hml]; rfl) (Steps.refl _) (argsL := [(.ref a2)]) (rest := []) (lenOf pd_1 rfl) rfl (by show 2 * 0 + _ ≤ _; exact Nat.le_of_eq rfl) (hb hby d68_73_2) (fun _ _ => ⟨rfl, e0, (by decide : 0 + 0 ≤ _), (by decide : 0 + 0 ≤ _)⟩)
  dsimp only [Pt.U, Pt.locs, Pt.cells, Pt.slots] at X1 l1 y1 z1 st1 hQ1
  subst l1 y1 z1
  obtain ⟨rfl, N1q, e1⟩ := hQ1
  have N1 := Fr.app N0 N1q
  obtain ⟨T2, X2, e2, st2⟩ := getF X1 hx hZ hown (host := "") (Or.inl (own_t hw 125 rfl)) Via.refl e1 F_value_a1 (g := (mkF m 7 #[.val (.ref a1), .val (.int cn), .val (.ref a2)] [(.ref a1), (.ref a2)])) rfl rfl (hb hby d68_73_7)
  obtain ⟨T3, X3, e3, st3⟩ := getF X2 hx hZ hown (host := "") (Or.inl (own_t hw 127 rfl)) Via.refl e2 F_coder_a1 (g := (mkF m 12 #[.val (.ref a1), .val (.int cn), .val (.ref a2)] [(.ref a1), (.int cn), (.ref t1), (.ref a2)])) rfl rfl (hb hby d68_73_12)
  obtain ⟨cq4, kq4, q4a, q4b, q4c⟩ := isOf hZ e3 E_a2
  obtain ⟨_, _, ⟨T4, LL4, kk4, nn4⟩, -, X4, ⟨Lc4, hQ4, l4, y4, z4⟩, st4⟩ := X3.virtualBack hx (y := (⟨"java/lang/String", "getBytes", "([BIB)V"⟩ : MethodName)) (z := (⟨"java/lang/String", "getBytes", "([BIB)V"⟩ : MethodName)) hown (mvT hZ (own_t hw 163 rfl)) (mvT hZ (own_t hw 164 rfl)) (notFace_of_selects (args := #[]) (mvT hZ (own_t hw 166 rfl))) (mvT hZ (own_t hw 166 rfl)) (mvT hZ (own_t hw 165 rfl)) (by decide) (backOf (W := 0) (rmGB l Z a0 hw [] a2 t1 cn t2 k2 z L2 k1 cap L1 L3 zc h0 n0 Z0 E_a2 F_value_a2 F_coder_a2 V_t2 V_t1 g_t1 S_COMPACT_STRINGS_ (hzc) (hpos) (hz) (h5) (hl) (hL)) hZ (own_t hw 167 rfl) (own_t hw 3 rfl) (by decide) (by decide)) q4a q4c (g := (mkF m 15 #[.val (.ref a1), .val (.int cn), .val (.ref a2)] [(.int 0), (.int cn), (.ref t1), (.ref a2)])) rfl (by rw [hml]; rfl) (Steps.refl _) (argsL := [(.ref t1), (.int cn), (.int 0)]) (rest := []) (lenOf pd_2 rfl) rfl (by show 2 * 0 + _ ≤ _; exact Nat.le_of_eq rfl) (hb hby d68_73_15) (fun _ _ => ⟨rfl, e3, (by decide : 0 + 0 ≤ _), (by decide : 0 + 0 ≤ _)⟩)
  dsimp only [Pt.U, Pt.locs, Pt.cells, Pt.slots] at X4 l4 y4 z4 st4 hQ4
  subst l4 y4 z4
  obtain ⟨rfl, N4q, K4, p4_0⟩ := hQ4
  have N4 := Fr.app N1 N4q
  have Q4 : Keep h0 T4.heap [t1] := (Keep.refl h0 [t1]).trans K4 (allS (Or.inl (List.mem_of_getElem? (i := 0) rfl)) all0)
  obtain ⟨fs, hr, hrun, hended, hW, hsame⟩ := X4.leave (v := none) (fun _ => rfl)
  refine ⟨_, _, pre0 _ ?_, hrun, hended, _, _, rfl, ?_, ⟨_, rfl⟩, hW, hsame.mono (by decide) (by decide)⟩
  · show Steps p.tables e below (s₁.setTop (mkF m 0 #[.val (.ref a1), .val (.int cn), .val (.ref a2)] [])) _
    refine XS.aloadN X0.here hx rfl (hb hby d68_73_0) rfl rfl ?_
    refine XS.aloadN X0.here hx rfl (hb hby d68_73_1) rfl rfl ?_
    refine st1.trans ?_
    show Steps p.tables e below (T1.setTop (mkF m 5 #[.val (.ref a1), .val (.int cn), .val (.ref a2)] [])) _
    refine XS.aloadN X1.here hx rfl (hb hby d68_73_5) rfl rfl ?_
    refine XS.aloadN X1.here hx rfl (hb hby d68_73_6) rfl rfl ?_
    refine st2 _ ?_
    show Steps p.tables e below (T2.setTop (mkF m 10 #[.val (.ref a1), .val (.int cn), .val (.ref a2)] [(.ref t1), (.ref a2)])) _
    refine XS.iloadN X2.here hx rfl (hb hby d68_73_10) rfl ?_
    refine XS.aloadN X2.here hx rfl (hb hby d68_73_11) rfl rfl ?_
    refine st3 _ ?_
    show Steps p.tables e below (T3.setTop (mkF m 15 #[.val (.ref a1), .val (.int cn), .val (.ref a2)] [(.int 0), (.int cn), (.ref t1), (.ref a2)])) _
    refine st4.trans ?_
    show Steps p.tables e below (T4.setTop (mkF m 18 #[.val (.ref a1), .val (.int cn), .val (.ref a2)] [])) _
    exact X4.returnOut hx Bd.returns (hb hby d68_73_18) hr
  · show Q_rmPS Z a1 cn a2 t1 t2 k2 z L2 k1 cap L1 L3 zc h0 n0 _ T4.heap _
    exact ⟨rfl, N4, Q4, p4_0⟩
theorem d68_9_0 : decode jdk_68_method_9_code 0 = .ok (.aload_n 0, 1) := by decide +kernel
theorem d68_9_1 : decode jdk_68_method_9_code 1 = .ok (.getfield 15, 3) := by decide +kernel
theorem d68_9_4 : decode jdk_68_method_9_code 4 = .ok (.arraylength, 1) := by decide +kernel
theorem d68_9_5 : decode jdk_68_method_9_code 5 = .ok (.aload_n 0, 1) := by decide +kernel
theorem d68_9_6 : decode jdk_68_method_9_code 6 = .ok (.getfield 22, 3) := by decide +kernel
theorem d68_9_9 : decode jdk_68_method_9_code 9 = .ok (.ishr, 1) := by decide +kernel
theorem d68_9_10 : decode jdk_68_method_9_code 10 = .ok (.istore_n 2, 1) := by decide +kernel
theorem d68_9_11 : decode jdk_68_method_9_code 11 = .ok (.iload_n 1, 1) := by decide +kernel
theorem d68_9_12 : decode jdk_68_method_9_code 12 = .ok (.iload_n 2, 1) := by decide +kernel
theorem d68_9_13 : decode jdk_68_method_9_code 13 = .ok (.isub, 1) := by decide +kernel
theorem d68_9_14 : decode jdk_68_method_9_code 14 = .ok (.ifCond .le 24, 3) := by decide +kernel
theorem d68_9_38 : decode jdk_68_method_9_code 38 = .ok (.return_, 1) := by decide +kernel
def Q_rmEC (Z : State) (a1 : Addr) (p2 : Int32) (t1 : Addr) (k1 : ClassId) (cap : Int32) (L1 : List Value) (h0 : Heap) (n0 : Nat) (v : Option Value) (h : Heap) (L : List Loc) : Prop := v = none ∧ Fr n0 L ∧ h = h0
theorem ef_4 (m : MethodId) (x0 : Addr) (x1 : Int32) : entryFrame m #[(.ref x0), (.int x1)] 3 = mkF m 0 #[.val (.ref x0), .val (.int x1), .unset] [] := by first | (simp [entryFrame, mkF, argsToLocals, Value.category]; done) | rfl
set_option maxRecDepth 65536 in
set_option maxHeartbeats 40000000 in
theorem rmEC (l : Launch) (Z : State) (a0 : Array Value) (hw : ∀ d ∈ tables_1, d.before a0 Z = true) (ws : List Jvm.Cond) (a1 : Addr) (p2 : Int32) (t1 : Addr) (k1 : ClassId) (cap : Int32) (L1 : List Value) (h0 : Heap) (n0 : Nat) (Z0 : n0 ≤ h0.size) (F_value_a1 : Fld Z h0 a1 "java/lang/AbstractStringBuilder" "value" "[B" (.ref t1)) (F_coder_a1 : Fld Z h0 a1 "java/lang/AbstractStringBuilder" "coder" "B" (.int 0)) (V_t1 : Arv Z h0 t1 k1 .byte cap L1 (.int 0)) (hcap : ¬ 0 < (p2 - cap)) :
    MetFree l (⟨"java/lang/AbstractStringBuilder", "ensureCapacityInternal", "(I)V"⟩ : MethodName) (head1 (Jvm.Cond.code (⟨"java/lang/AbstractStringBuilder", "ensureCapacityInternal", "(I)V"⟩ : MethodName) jdk_68_method_9_code 3 none :: ws) ({ frames := 0, cells := 0, slots := 0, locals := 0 } : Room)) (fun a U => a = #[(.ref a1), (.int p2)] ∧ Z.Warmed39 U.vm ∧ U.heap = h0) (fun _ _ _ _ _ => True) (fun _ U o U' => ∃ v L, o = .returned v ∧ Q_rmEC Z a1 p2 t1 k1 cap L1 h0 n0 v U'.heap L ∧ FrameEnd U o U' L ({ frames := 0, cells := 0, slots := 0, locals := 0 } : Room).cells ({ frames := 0, cells := 0, slots := 0, locals := 0 } : Room).slots) := by
  refine MetFree.of_bodySF (plainFor_of_name pn_1) hisR ?_
  intro p e s m args below meth c s₁ Bd hml0 hP hK
  obtain ⟨rfl, hZ, hh⟩ := hP
  have hx := Bd.exec
  have hby := Bd.bytes
  have hml : c.maxLocals = 3 := hml0
  have hown : s.vm.findClass "java/lang/AbstractStringBuilder" = some m.cls := findClass_of_methodNamed Bd.named
  have hnm := (name_of_methodNamed Bd.named Bd.method).1
  have X0 : Stand p l e ({ frames := 0, cells := 0, slots := 0, locals := 0 } : Room) s m #[(.ref a1), (.int p2)] below meth c s₁ [] 0 0 := Stand.of_body Bd
  have e0 : s₁.heap = h0 := by rw [← hh, Bd.state]; rfl
  have N0 := Fr.nil n0
  have pre0 : ∀ t, Steps p.tables e below (s₁.setTop (mkF m 0 #[.val (.ref a1), .val (.int p2), .unset] [])) t → Steps p.tables e below (s₁.setTop (entryFrame m #[(.ref a1), (.int p2)] 3)) t := fun t k => castTop (ef_4 m a1 p2) k
  obtain ⟨T1, X1, e1, st1⟩ := getF X0 hx hZ hown (host := "") (Or.inl (own_t hw 125 rfl)) Via.refl e0 F_value_a1 (g := (mkF m 1 #[.val (.ref a1), .val (.int p2), .unset] [(.ref a1)])) rfl rfl (hb hby d68_9_1)
  obtain ⟨cl2, Ar2, q2, S2, M2, H2, G2⟩ := id V_t1
  obtain ⟨T3, X3, e3, st3⟩ := getF X1 hx hZ hown (host := "") (Or.inl (own_t hw 127 rfl)) Via.refl e1 F_coder_a1 (g := (mkF m 6 #[.val (.ref a1), .val (.int p2), .unset] [(.ref a1), (.int cap)])) rfl rfl (hb hby d68_9_6)
  obtain ⟨fs, hr, hrun, hended, hW, hsame⟩ := X3.leave (v := none) (fun _ => rfl)
  refine ⟨_, _, pre0 _ ?_, hrun, hended, _, _, rfl, ?_, ⟨_, rfl⟩, hW, hsame.mono (by decide) (by decide)⟩
  · show Steps p.tables e below (s₁.setTop (mkF m 0 #[.val (.ref a1), .val (.int p2), .unset] [])) _
    refine XS.aloadN X0.here hx rfl (hb hby d68_9_0) rfl rfl ?_
    refine st1 _ ?_
    show Steps p.tables e below (T1.setTop (mkF m 4 #[.val (.ref a1), .val (.int p2), .unset] [(.ref t1)])) _
    refine X1.arraylength hx (by rw [e1]; exact Ar2.1) (State.isArrayOf_alike hZ.alike Ar2.2.1) (g := (mkF m 4 #[.val (.ref a1), .val (.int p2), .unset] [(.ref t1)])) rfl rfl (hb hby d68_9_4) _ ?_
    rw [len_of S2 M2]
    show Steps p.tables e below (T1.setTop (mkF m 5 #[.val (.ref a1), .val (.int p2), .unset] [(.int cap)])) _
    refine XS.aloadN X1.here hx rfl (hb hby d68_9_5) rfl rfl ?_
    refine st3 _ ?_
    show Steps p.tables e below (T3.setTop (mkF m 9 #[.val (.ref a1), .val (.int p2), .unset] [(.int 0), (.int cap)])) _
    refine XS.ishr X3.here hx rfl (hb hby d68_9_9) rfl ?_
    rw [own_shr0]
    show Steps p.tables e below (T3.setTop (mkF m 10 #[.val (.ref a1), .val (.int p2), .unset] [(.int cap)])) _
    refine XS.istoreN X3.here hx rfl (hb hby d68_9_10) rfl (l' := #[.val (.ref a1), .val (.int p2), .val (.int cap)]) rfl ?_
    show Steps p.tables e below (T3.setTop (mkF m 11 #[.val (.ref a1), .val (.int p2), .val (.int cap)] [])) _
    refine XS.iloadN X3.here hx rfl (hb hby d68_9_11) rfl ?_
    refine XS.iloadN X3.here hx rfl (hb hby d68_9_12) rfl ?_
    refine XS.isub X3.here hx rfl (hb hby d68_9_13) rfl ?_
    show Steps p.tables e below (T3.setTop (mkF m 14 #[.val (.ref a1), .val (.int p2), .val (.int cap)] [(.int (p2 - cap))])) _
    refine XS.ifYes X3.here hx rfl (pc0 := 14) (pc' := 38) rfl (hb hby d68_9_14) rfl ((if0 _ _).trans (flt hcap).2.2.2) (by decide) (by decide) ?_
    show Steps p.tables e below (T3.setTop (mkF m 38 #[.val (.ref a1), .val (.int p2), .val (.int cap)] [])) _
    exact X3.returnOut hx Bd.returns (hb hby d68_9_38) hr
  · show Q_rmEC Z a1 p2 t1 k1 cap L1 h0 n0 _ T3.heap _
    rw [e3]
    exact ⟨rfl, N0, rfl⟩
theorem d68_22_0 : decode jdk_68_method_22_code 0 = .ok (.aload_n 1, 1) := by decide +kernel
theorem d68_22_1 : decode jdk_68_method_22_code 1 = .ok (.ifnonnull 8, 3) := by decide +kernel
theorem d68_22_9 : decode jdk_68_method_22_code 9 = .ok (.aload_n 1, 1) := by decide +kernel
theorem d68_22_10 : decode jdk_68_method_22_code 10 = .ok (.invokevirtual 32, 3) := by decide +kernel
theorem pd_3 : parseMethodDescriptor "()I" = some ⟨[], some .int⟩ := by decide +kernel
theorem d68_22_13 : decode jdk_68_method_22_code 13 = .ok (.istore_n 2, 1) := by decide +kernel
theorem d68_22_14 : decode jdk_68_method_22_code 14 = .ok (.aload_n 0, 1) := by decide +kernel
theorem d68_22_15 : decode jdk_68_method_22_code 15 = .ok (.aload_n 0, 1) := by decide +kernel
theorem d68_22_16 : decode jdk_68_method_22_code 16 = .ok (.getfield 79, 3) := by decide +kernel
theorem d68_22_19 : decode jdk_68_method_22_code 19 = .ok (.iload_n 2, 1) := by decide +kernel
theorem d68_22_20 : decode jdk_68_method_22_code 20 = .ok (.iadd, 1) := by decide +kernel
theorem d68_22_21 : decode jdk_68_method_22_code 21 = .ok (.invokevirtual 100, 3) := by decide +kernel
theorem pd_4 : parseMethodDescriptor "(I)V" = some ⟨[.int], none⟩ := by decide +kernel
theorem d68_22_24 : decode jdk_68_method_22_code 24 = .ok (.aload_n 0, 1) := by decide +kernel
theorem d68_22_25 : decode jdk_68_method_22_code 25 = .ok (.aload_n 0, 1) := by decide +kernel
theorem d68_22_26 : decode jdk_68_method_22_code 26 = .ok (.getfield 79, 3) := by decide +kernel
theorem d68_22_29 : decode jdk_68_method_22_code 29 = .ok (.aload_n 1, 1) := by decide +kernel
theorem d68_22_30 : decode jdk_68_method_22_code 30 = .ok (.invokevirtual 208, 3) := by decide +kernel
theorem pd_5 : parseMethodDescriptor "(ILjava/lang/String;)V" = some ⟨[.int, (.object "java/lang/String")], none⟩ := by decide +kernel
theorem d68_22_33 : decode jdk_68_method_22_code 33 = .ok (.aload_n 0, 1) := by decide +kernel
theorem d68_22_34 : decode jdk_68_method_22_code 34 = .ok (.dup, 1) := by decide +kernel
theorem d68_22_35 : decode jdk_68_method_22_code 35 = .ok (.getfield 79, 3) := by decide +kernel
theorem d68_22_38 : decode jdk_68_method_22_code 38 = .ok (.iload_n 2, 1) := by decide +kernel
theorem d68_22_39 : decode jdk_68_method_22_code 39 = .ok (.iadd, 1) := by decide +kernel
theorem d68_22_40 : decode jdk_68_method_22_code 40 = .ok (.putfield 79, 3) := by decide +kernel
theorem d68_22_43 : decode jdk_68_method_22_code 43 = .ok (.aload_n 0, 1) := by decide +kernel
theorem d68_22_44 : decode jdk_68_method_22_code 44 = .ok (.areturn, 1) := by decide +kernel
def Q_rmAA (Z : State) (a1 : Addr) (a2 : Addr) (t1 : Addr) (cn : Int32) (c2 : Int32) (t2 : Addr) (k2 : ClassId) (z : Int32) (L2 : List Value) (k1 : ClassId) (cap : Int32) (L1 : List Value) (L3 : List Value) (zc : Int32) (h0 : Heap) (n0 : Nat) (v : Option Value) (h : Heap) (L : List Loc) : Prop := v = some (.ref a1) ∧ Fr n0 L ∧ Keep h0 h [a1, t1] ∧ Fld Z h a1 "java/lang/AbstractStringBuilder" "value" "[B" (.ref t1) ∧ Fld Z h a1 "java/lang/AbstractStringBuilder" "coder" "B" (.int 0) ∧ Fld Z h a1 "java/lang/AbstractStringBuilder" "count" "I" (.int c2) ∧ Arv Z h t1 k1 .byte cap L3 (.int 0)
theorem ef_5 (m : MethodId) (x0 : Addr) (x1 : Addr) : entryFrame m #[(.ref x0), (.ref x1)] 3 = mkF m 0 #[.val (.ref x0), .val (.ref x1), .unset] [] := by first | (simp [entryFrame, mkF, argsToLocals, Value.category]; done) | rfl
set_option maxRecDepth 65536 in
set_option maxHeartbeats 40000000 in
theorem rmAA (l : Launch) (Z : State) (a0 : Array Value) (hw : ∀ d ∈ tables_1, d.before a0 Z = true) (ws : List Jvm.Cond) (a1 : Addr) (a2 : Addr) (t1 : Addr) (cn : Int32) (c2 : Int32) (t2 : Addr) (k2 : ClassId) (z : Int32) (L2 : List Value) (k1 : ClassId) (cap : Int32) (L1 : List Value) (L3 : List Value) (zc : Int32) (h0 : Heap) (n0 : Nat) (Z0 : n0 ≤ h0.size) (E_a1 : Exa Z h0 a1 "java/lang/StringBuilder") (F_value_a1 : Fld Z h0 a1 "java/lang/AbstractStringBuilder" "value" "[B" (.ref t1)) (F_coder_a1 : Fld Z h0 a1 "java/lang/AbstractStringBuilder" "coder" "B" (.int 0)) (F_count_a1 : Fld Z h0 a1 "java/lang/AbstractStringBuilder" "count" "I" (.int cn)) (g_a1 : n0 ≤ a1) (V_t1 : Arv Z h0 t1 k1 .byte cap L1 (.int 0)) (g_t1 : n0 ≤ t1) (E_a2 : Exa Z h0 a2 "java/lang/String") (F_value_a2 : Fld Z h0 a2 "java/lang/String" "value" "[B" (.ref t2)) (F_coder_a2 : Fld Z h0 a2 "java/lang/String" "coder" "B" (.int 0)) (V_t2 : Arv Z h0 t2 k2 .byte z L2 (.int 0)) (S_COMPACT_STRINGS_ : Sta Z h0 "java/lang/String" "COMPACT_STRINGS" "Z" (.int zc)) (hzc : ¬ zc = 0) (hc2 : cn + z = c2) (hcap : ¬ 0 < (c2 - cap)) (hpos : ¬ cn < 0) (hz : ¬ z < 0) (h5 : (cn).toNatClampNeg + (z).toNatClampNeg ≤ (cap).toNatClampNeg) (hl : (cn).toNatClampNeg + (z).toNatClampNeg ≤ (L1).length) (hL : own_put L1 cn L2 z = L3) :
    MetFree l (⟨"java/lang/AbstractStringBuilder", "append", "(Ljava/lang/String;)Ljava/lang/AbstractStringBuilder;"⟩ : MethodName) (head1 (Jvm.Cond.code (⟨"java/lang/AbstractStringBuilder", "append", "(Ljava/lang/String;)Ljava/lang/AbstractStringBuilder;"⟩ : MethodName) jdk_68_method_22_code 3 (some (.object "java/lang/AbstractStringBuilder")) :: ws) ({ frames := 3, cells := 0, slots := 0, locals := 47 } : Room)) (fun a U => a = #[(.ref a1), (.ref a2)] ∧ Z.Warmed39 U.vm ∧ U.heap = h0) (fun _ _ _ _ _ => True) (fun _ U o U' => ∃ v L, o = .returned v ∧ Q_rmAA Z a1 a2 t1 cn c2 t2 k2 z L2 k1 cap L1 L3 zc h0 n0 v U'.heap L ∧ FrameEnd U o U' L ({ frames := 3, cells := 0, slots := 0, locals := 47 } : Room).cells ({ frames := 3, cells := 0, slots := 0, locals := 47 } : Room).slots) := by
  refine MetFree.of_bodySF (plainFor_of_name pn_1) hisR ?_
  intro p e s m args below meth c s₁ Bd hml0 hP hK
  obtain ⟨rfl, hZ, hh⟩ := hP
  have hx := Bd.exec
  have hby := Bd.bytes
  have hml : c.maxLocals = 3 := hml0
  have hown : s.vm.findClass "java/lang/AbstractStringBuilder" = some m.cls := findClass_of_methodNamed Bd.named
  have hnm := (name_of_methodNamed Bd.named Bd.method).1
  have X0 : Stand p l e ({ frames := 3, cells := 0, slots := 0, locals := 47 } : Room) s m #[(.ref a1), (.ref a2)] below meth c s₁ [] 0 0 := Stand.of_body Bd
  have e0 : s₁.heap = h0 := by rw [← hh, Bd.state]; rfl
  have N0 := Fr.nil n0
  have pre0 : ∀ t, Steps p.tables e below (s₁.setTop (mkF m 0 #[.val (.ref a1), .val (.ref a2), .unset] [])) t → Steps p.tables e below (s₁.setTop (entryFrame m #[(.ref a1), (.ref a2)] 3)) t := fun t k => castTop (ef_5 m a1 a2) k
  obtain ⟨cq1, kq1, q1a, q1b, q1c⟩ := isOf hZ e0 E_a2
  obtain ⟨_, _, ⟨T1, LL1, kk1, nn1⟩, -, X1, ⟨Lc1, hQ1, l1, y1, z1⟩, st1⟩ := X0.virtualBack hx (y := (⟨"java/lang/String", "length", "()I"⟩ : MethodName)) (z := (⟨"java/lang/String", "length", "()I"⟩ : MethodName)) hown (mvT hZ (own_t hw 140 rfl)) (mvT hZ (own_t hw 141 rfl)) (notFace_of_selects (args := #[]) (mvT hZ (own_t hw 143 rfl))) (mvT hZ (own_t hw 143 rfl)) (mvT hZ (own_t hw 142 rfl)) (by decide) (backOf (W := 0) (rmLn l Z a0 hw [] a2 t2 k2 z L2 zc h0 n0 Z0 E_a2 F_value_a2 F_coder_a2 V_t2 S_COMPACT_STRINGS_ (hzc)) hZ (own_t hw 144 rfl) (own_t hw 3 rfl) (by decide) (by decide)) q1a q1c (g := (mkF m 10 #[.val (.ref a1), .val (.ref a2), .unset] [(.ref a2)])) rfl (by rw [hml]; rfl) (Steps.refl _) (argsL := []) (rest := []) (lenOf pd_3 rfl) rfl (by show 2 * 0 + _ ≤ _; exact Nat.le_of_eq rfl) (hb hby d68_22_10) (fun _ _ => ⟨rfl, e0, (by decide : 0 + 0 ≤ _), (by decide : 0 + 0 ≤ _)⟩)
  dsimp only [Pt.U, Pt.locs, Pt.cells, Pt.slots] at X1 l1 y1 z1 st1 hQ1
  subst l1 y1 z1
  obtain ⟨rfl, N1q, e1⟩ := hQ1
  have N1 := Fr.app N0 N1q
  obtain ⟨T2, X2, e2, st2⟩ := getF X1 hx hZ hown (host := "") (Or.inl (own_t hw 145 rfl)) Via.refl e1 F_count_a1 (g := (mkF m 16 #[.val (.ref a1), .val (.ref a2), .val (.int z)] [(.ref a1), (.ref a1)])) rfl rfl (hb hby d68_22_16)
  obtain ⟨cq3, kq3, q3a, q3b, q3c⟩ := isOf hZ e2 E_a1
  obtain ⟨_, _, ⟨T3, LL3, kk3, nn3⟩, -, X3, ⟨Lc3, hQ3, l3, y3, z3⟩, st3⟩ := own_privBack X2 hx (y := (⟨"java/lang/AbstractStringBuilder", "ensureCapacityInternal", "(I)V"⟩ : MethodName)) hown (mvT hZ (own_t hw 147 rfl)) (mvT hZ (own_t hw 149 rfl)) (mvT hZ (own_t hw 150 rfl)) (mvT hZ (own_t hw 148 rfl)) (mvT hZ (own_t hw 151 rfl)) (by decide) (backOf (W := 0) (rmEC l Z a0 hw [] a1 c2 t1 k1 cap L1 h0 n0 Z0 F_value_a1 F_coder_a1 V_t1 (hcap)) hZ (own_t hw 151 rfl) (own_t hw 121 rfl) (by decide) (by decide)) q3c (g := (mkF m 21 #[.val (.ref a1), .val (.ref a2), .val (.int z)] [(.int c2), (.ref a1)])) rfl (by rw [hml]; rfl) (Steps.refl _) (argsL := [(.int c2)]) (rest := []) (lenOf pd_4 rfl) rfl (by show 2 * 0 + _ ≤ _; exact Nat.le_of_eq rfl) (hb hby d68_22_21) (fun _ _ => ⟨rfl, e2, (by decide : 0 + 0 ≤ _), (by decide : 0 + 0 ≤ _)⟩)
  dsimp only [Pt.U, Pt.locs, Pt.cells, Pt.slots] at X3 l3 y3 z3 st3 hQ3
  subst l3 y3 z3
  obtain ⟨rfl, N3q, e3⟩ := hQ3
  have N3 := Fr.app N1 N3q
  obtain ⟨T4, X4, e4, st4⟩ := getF X3 hx hZ hown (host := "") (Or.inl (own_t hw 145 rfl)) Via.refl e3 F_count_a1 (g := (mkF m 26 #[.val (.ref a1), .val (.ref a2), .val (.int z)] [(.ref a1), (.ref a1)])) rfl rfl (hb hby d68_22_26)
  obtain ⟨cq5, kq5, q5a, q5b, q5c⟩ := isOf hZ e4 E_a1
  obtain ⟨_, _, ⟨T5, LL5, kk5, nn5⟩, -, X5, ⟨Lc5, hQ5, l5, y5, z5⟩, st5⟩ := own_privBack X4 hx (y := (⟨"java/lang/AbstractStringBuilder", "putStringAt", "(ILjava/lang/String;)V"⟩ : MethodName)) hown (mvT hZ (own_t hw 152 rfl)) (mvT hZ (own_t hw 154 rfl)) (mvT hZ (own_t hw 155 rfl)) (mvT hZ (own_t hw 153 rfl)) (mvT hZ (own_t hw 156 rfl)) (by decide) (backOf (W := 0) (rmPS l Z a0 hw [] a1 cn a2 t1 t2 k2 z L2 k1 cap L1 L3 zc h0 n0 Z0 E_a1 F_value_a1 F_coder_a1 E_a2 F_value_a2 F_coder_a2 V_t2 V_t1 g_t1 S_COMPACT_STRINGS_ (hzc) (hpos) (hz) (h5) (hl) (hL)) hZ (own_t hw 156 rfl) (own_t hw 121 rfl) (by decide) (by decide)) q5c (g := (mkF m 30 #[.val (.ref a1), .val (.ref a2), .val (.int z)] [(.ref a2), (.int cn), (.ref a1)])) rfl (by rw [hml]; rfl) (Steps.refl _) (argsL := [(.int cn), (.ref a2)]) (rest := []) (lenOf pd_5 rfl) rfl (by show 2 * 0 + _ ≤ _; exact Nat.le_of_eq rfl) (hb hby d68_22_30) (fun _ _ => ⟨rfl, e4, (by decide : 0 + 0 ≤ _), (by decide : 0 + 0 ≤ _)⟩)
  dsimp only [Pt.U, Pt.locs, Pt.cells, Pt.slots] at X5 l5 y5 z5 st5 hQ5
  subst l5 y5 z5
  obtain ⟨rfl, N5q, K5, p5_0⟩ := hQ5
  have N5 := Fr.app N3 N5q
  have Q5 : Keep h0 T5.heap [a1, t1] := (Keep.refl h0 [a1, t1]).trans K5 (allS (Or.inl (List.mem_of_getElem? (i := 1) rfl)) all0)
  have nq0 : a1 ≠ t1 := (own_exarv (own_t hw 112 rfl) E_a1 V_t1)
  obtain ⟨T6, X6, e6, st6⟩ := getF X5 hx hZ hown (host := "") (Or.inl (own_t hw 145 rfl)) Via.refl rfl (F_count_a1.keep K5 (ninS nq0 nin0)) (g := (mkF m 35 #[.val (.ref a1), .val (.ref a2), .val (.int z)] [(.ref a1), (.ref a1)])) rfl rfl (hb hby d68_22_35)
  obtain ⟨T7, h7, X7, e7, W7, st7⟩ := putF X6 hx hZ hown (host := "") (Or.inl (own_t hw 145 rfl)) Via.refl e6 (F_count_a1.keep K5 (ninS nq0 nin0)) (E_a1.keep K5) (Or.inl (own_t hw 146 rfl)) (own_t hw 112 rfl) (ty := .int) (by decide) rfl rfl (g := (mkF m 40 #[.val (.ref a1), .val (.ref a2), .val (.int z)] [(.int c2), (.ref a1)])) rfl rfl (hb hby d68_22_40)
  have Fw7 := (F_count_a1.keep K5 (ninS nq0 nin0)).same W7
  have Q7 : Keep h0 h7 [a1, t1] := Q5.wr W7 (Or.inl (List.mem_of_getElem? (i := 0) rfl))
  have N7 := Fr.snoc X7 N5 g_a1
  obtain ⟨fs, hr, hrun, hended, hW, hsame⟩ := X7.leave (v := some (.ref a1)) (fun h => by rw [Bd.returns] at h; cases h)
  refine ⟨_, _, pre0 _ ?_, hrun, hended, _, _, rfl, ?_, ⟨_, rfl⟩, hW, hsame.mono (by decide) (by decide)⟩
  · show Steps p.tables e below (s₁.setTop (mkF m 0 #[.val (.ref a1), .val (.ref a2), .unset] [])) _
    refine XS.aloadN X0.here hx rfl (hb hby d68_22_0) rfl rfl ?_
    refine XS.ifnonnullYes X0.here hx rfl (pc0 := 1) (pc' := 9) rfl (hb hby d68_22_1) rfl (by decide) (by decide) ?_
    show Steps p.tables e below (s₁.setTop (mkF m 9 #[.val (.ref a1), .val (.ref a2), .unset] [])) _
    refine XS.aloadN X0.here hx rfl (hb hby d68_22_9) rfl rfl ?_
    refine st1.trans ?_
    show Steps p.tables e below (T1.setTop (mkF m 13 #[.val (.ref a1), .val (.ref a2), .unset] [(.int z)])) _
    refine XS.istoreN X1.here hx rfl (hb hby d68_22_13) rfl (l' := #[.val (.ref a1), .val (.ref a2), .val (.int z)]) rfl ?_
    show Steps p.tables e below (T1.setTop (mkF m 14 #[.val (.ref a1), .val (.ref a2), .val (.int z)] [])) _
    refine XS.aloadN X1.here hx rfl (hb hby d68_22_14) rfl rfl ?_
    refine XS.aloadN X1.here hx rfl (hb hby d68_22_15) rfl rfl ?_
    refine st2 _ ?_
    show Steps p.tables e below (T2.setTop (mkF m 19 #[.val (.ref a1), .val (.ref a2), .val (.int z)] [(.int cn), (.ref a1)])) _
    refine XS.iloadN X2.here hx rfl (hb hby d68_22_19) rfl ?_
    refine XS.iadd X2.here hx rfl (hb hby d68_22_20) rfl ?_
    rw [hc2]
    show Steps p.tables e below (T2.setTop (mkF m 21 #[.val (.ref a1), .val (.ref a2), .val (.int z)] [(.int c2), (.ref a1)])) _
    refine st3.trans ?_
    show Steps p.tables e below (T3.setTop (mkF m 24 #[.val (.ref a1), .val (.ref a2), .val (.int z)] [])) _
    refine XS.aloadN X3.here hx rfl (hb hby d68_22_24) rfl rfl ?_
    refine XS.aloadN X3.here hx rfl (hb hby d68_22_25) rfl rfl ?_
    refine st4 _ ?_
    show Steps p.tables e below (T4.setTop (mkF m 29 #[.val (.ref a1), .val (.ref a2), .val (.int z)] [(.int cn), (.ref a1)])) _
    refine XS.aloadN X4.here hx rfl (hb hby d68_22_29) rfl rfl ?_
    refine st5.trans ?_
    show Steps p.tables e below (T5.setTop (mkF m 33 #[.val (.ref a1), .val (.ref a2), .val (.int z)] [])) _
    refine XS.aloadN X5.here hx rfl (hb hby d68_22_33) rfl rfl ?_
    refine XS.dup X5.here hx rfl (hb hby d68_22_34) rfl rfl ?_
    refine st6 _ ?_
    show Steps p.tables e below (T6.setTop (mkF m 38 #[.val (.ref a1), .val (.ref a2), .val (.int z)] [(.int cn), (.ref a1)])) _
    refine XS.iloadN X6.here hx rfl (hb hby d68_22_38) rfl ?_
    refine XS.iadd X6.here hx rfl (hb hby d68_22_39) rfl ?_
    rw [hc2]
    show Steps p.tables e below (T6.setTop (mkF m 40 #[.val (.ref a1), .val (.ref a2), .val (.int z)] [(.int c2), (.ref a1)])) _
    refine st7 _ ?_
    show Steps p.tables e below (T7.setTop (mkF m 43 #[.val (.ref a1), .val (.ref a2), .val (.int z)] [])) _
    refine XS.aloadN X7.here hx rfl (hb hby d68_22_43) rfl rfl ?_
    exact X7.areturnOut hx rfl Bd.returns rfl (hb hby d68_22_44) hr
  · show Q_rmAA Z a1 a2 t1 cn c2 t2 k2 z L2 k1 cap L1 L3 zc h0 n0 _ T7.heap _
    rw [e7]
    exact ⟨rfl, N7, Q7, ((F_value_a1.keep K5 (ninS nq0 nin0)).other W7 (Or.inr (slot_ne (Or.inl (own_t hw 126 rfl)) (Or.inl (own_t hw 146 rfl)) (by decide) (t := (.array .byte)) (t' := .int) (by decide) (by decide)))), ((F_coder_a1.keep K5 (ninS nq0 nin0)).other W7 (Or.inr (slot_ne (Or.inl (own_t hw 128 rfl)) (Or.inl (own_t hw 146 rfl)) (by decide) (t := .byte) (t' := .int) (by decide) (by decide)))), Fw7, (p5_0.other W7 nq0.symm)⟩
theorem d67_7_0 : decode jdk_67_method_7_code 0 = .ok (.aload_n 0, 1) := by decide +kernel
theorem d67_7_1 : decode jdk_67_method_7_code 1 = .ok (.aload_n 1, 1) := by decide +kernel
theorem d67_7_2 : decode jdk_67_method_7_code 2 = .ok (.invokespecial 29, 3) := by decide +kernel
theorem pd_6 : parseMethodDescriptor "(Ljava/lang/String;)Ljava/lang/AbstractStringBuilder;" = some ⟨[(.object "java/lang/String")], some (.object "java/lang/AbstractStringBuilder")⟩ := by decide +kernel
theorem d67_7_5 : decode jdk_67_method_7_code 5 = .ok (.pop, 1) := by decide +kernel
theorem d67_7_6 : decode jdk_67_method_7_code 6 = .ok (.aload_n 0, 1) := by decide +kernel
theorem d67_7_7 : decode jdk_67_method_7_code 7 = .ok (.areturn, 1) := by decide +kernel
def Q_rmSA (Z : State) (a1 : Addr) (a2 : Addr) (t1 : Addr) (cn : Int32) (c2 : Int32) (t2 : Addr) (k2 : ClassId) (z : Int32) (L2 : List Value) (k1 : ClassId) (cap : Int32) (L1 : List Value) (L3 : List Value) (zc : Int32) (h0 : Heap) (n0 : Nat) (v : Option Value) (h : Heap) (L : List Loc) : Prop := v = some (.ref a1) ∧ Fr n0 L ∧ Keep h0 h [a1, t1] ∧ Fld Z h a1 "java/lang/AbstractStringBuilder" "value" "[B" (.ref t1) ∧ Fld Z h a1 "java/lang/AbstractStringBuilder" "coder" "B" (.int 0) ∧ Fld Z h a1 "java/lang/AbstractStringBuilder" "count" "I" (.int c2) ∧ Arv Z h t1 k1 .byte cap L3 (.int 0)
theorem pn_2 : plainName "java/lang/StringBuilder" = true := by first | (simp [plainName, overriddenIn]; done) | decide +kernel
set_option maxRecDepth 65536 in
set_option maxHeartbeats 40000000 in
theorem rmSA (l : Launch) (Z : State) (a0 : Array Value) (hw : ∀ d ∈ tables_1, d.before a0 Z = true) (ws : List Jvm.Cond) (a1 : Addr) (a2 : Addr) (t1 : Addr) (cn : Int32) (c2 : Int32) (t2 : Addr) (k2 : ClassId) (z : Int32) (L2 : List Value) (k1 : ClassId) (cap : Int32) (L1 : List Value) (L3 : List Value) (zc : Int32) (h0 : Heap) (n0 : Nat) (Z0 : n0 ≤ h0.size) (E_a1 : Exa Z h0 a1 "java/lang/StringBuilder") (F_value_a1 : Fld Z h0 a1 "java/lang/AbstractStringBuilder" "value" "[B" (.ref t1)) (F_coder_a1 : Fld Z h0 a1 "java/lang/AbstractStringBuilder" "coder" "B" (.int 0)) (F_count_a1 : Fld Z h0 a1 "java/lang/AbstractStringBuilder" "count" "I" (.int cn)) (g_a1 : n0 ≤ a1) (V_t1 : Arv Z h0 t1 k1 .byte cap L1 (.int 0)) (g_t1 : n0 ≤ t1) (E_a2 : Exa Z h0 a2 "java/lang/String") (F_value_a2 : Fld Z h0 a2 "java/lang/String" "value" "[B" (.ref t2)) (F_coder_a2 : Fld Z h0 a2 "java/lang/String" "coder" "B" (.int 0)) (V_t2 : Arv Z h0 t2 k2 .byte z L2 (.int 0)) (S_COMPACT_STRINGS_ : Sta Z h0 "java/lang/String" "COMPACT_STRINGS" "Z" (.int zc)) (hzc : ¬ zc = 0) (hc2 : cn + z = c2) (hcap : ¬ 0 < (c2 - cap)) (hpos : ¬ cn < 0) (hz : ¬ z < 0) (h5 : (cn).toNatClampNeg + (z).toNatClampNeg ≤ (cap).toNatClampNeg) (hl : (cn).toNatClampNeg + (z).toNatClampNeg ≤ (L1).length) (hL : own_put L1 cn L2 z = L3) :
    MetFree l (⟨"java/lang/StringBuilder", "append", "(Ljava/lang/String;)Ljava/lang/StringBuilder;"⟩ : MethodName) (head1 (Jvm.Cond.code (⟨"java/lang/StringBuilder", "append", "(Ljava/lang/String;)Ljava/lang/StringBuilder;"⟩ : MethodName) jdk_67_method_7_code 2 (some (.object "java/lang/StringBuilder")) :: ws) ({ frames := 4, cells := 0, slots := 0, locals := 61 } : Room)) (fun a U => a = #[(.ref a1), (.ref a2)] ∧ Z.Warmed39 U.vm ∧ U.heap = h0) (fun _ _ _ _ _ => True) (fun _ U o U' => ∃ v L, o = .returned v ∧ Q_rmSA Z a1 a2 t1 cn c2 t2 k2 z L2 k1 cap L1 L3 zc h0 n0 v U'.heap L ∧ FrameEnd U o U' L ({ frames := 4, cells := 0, slots := 0, locals := 61 } : Room).cells ({ frames := 4, cells := 0, slots := 0, locals := 61 } : Room).slots) := by
  refine MetFree.of_bodySF (plainFor_of_name pn_2) hisR ?_
  intro p e s m args below meth c s₁ Bd hml0 hP hK
  obtain ⟨rfl, hZ, hh⟩ := hP
  have hx := Bd.exec
  have hby := Bd.bytes
  have hml : c.maxLocals = 2 := hml0
  have hown : s.vm.findClass "java/lang/StringBuilder" = some m.cls := findClass_of_methodNamed Bd.named
  have hnm := (name_of_methodNamed Bd.named Bd.method).1
  have X0 : Stand p l e ({ frames := 4, cells := 0, slots := 0, locals := 61 } : Room) s m #[(.ref a1), (.ref a2)] below meth c s₁ [] 0 0 := Stand.of_body Bd
  have e0 : s₁.heap = h0 := by rw [← hh, Bd.state]; rfl
  have N0 := Fr.nil n0
  have pre0 : ∀ t, Steps p.tables e below (s₁.setTop (mkF m 0 #[.val (.ref a1), .val (.ref a2)] [])) t → Steps p.tables e below (s₁.setTop (entryFrame m #[(.ref a1), (.ref a2)] 2)) t := fun t k => castTop (ef_2 m a1 a2) k
  obtain ⟨_, _, ⟨T1, LL1, kk1, nn1⟩, -, X1, ⟨Lc1, hQ1, l1, y1, z1⟩, st1⟩ := superBack X0 hx hZ (y := (⟨"java/lang/AbstractStringBuilder", "append", "(Ljava/lang/String;)Ljava/lang/AbstractStringBuilder;"⟩ : MethodName)) hown (own_t hw 135 rfl) (own_same (own_t hw 136 rfl) (own_t hw 150 rfl) rfl (by decide)) (own_t hw 136 rfl) (own_t hw 137 rfl) (by decide) (backOf (W := 0) (rmAA l Z a0 hw [] a1 a2 t1 cn c2 t2 k2 z L2 k1 cap L1 L3 zc h0 n0 Z0 E_a1 F_value_a1 F_coder_a1 F_count_a1 g_a1 V_t1 g_t1 E_a2 F_value_a2 F_coder_a2 V_t2 S_COMPACT_STRINGS_ (hzc) (hc2) (hcap) (hpos) (hz) (h5) (hl) (hL)) hZ (own_t hw 139 rfl) (own_t hw 121 rfl) (by decide) (by decide)) e0 (Ins.self E_a1) (g := (mkF m 2 #[.val (.ref a1), .val (.ref a2)] [(.ref a2), (.ref a1)])) rfl (by rw [hml]; rfl) (own_t hw 139 rfl) (argsL := [(.ref a2)]) (rest := []) (lenOf pd_6 rfl) rfl (by show 2 * 0 + _ ≤ _; exact Nat.le_of_eq rfl) (hb hby d67_7_2) (fun _ _ => ⟨rfl, e0, (by decide : 0 + 0 ≤ _), (by decide : 0 + 0 ≤ _)⟩)
  dsimp only [Pt.U, Pt.locs, Pt.cells, Pt.slots] at X1 l1 y1 z1 st1 hQ1
  subst l1 y1 z1
  obtain ⟨rfl, N1q, K1, p1_0, p1_1, p1_2, p1_3⟩ := hQ1
  have N1 := Fr.app N0 N1q
  have Q1 : Keep h0 T1.heap [a1, t1] := (Keep.refl h0 [a1, t1]).trans K1 (allS (Or.inl (List.mem_of_getElem? (i := 0) rfl)) (allS (Or.inl (List.mem_of_getElem? (i := 1) rfl)) all0))
  obtain ⟨fs, hr, hrun, hended, hW, hsame⟩ := X1.leave (v := some (.ref a1)) (fun h => by rw [Bd.returns] at h; cases h)
  refine ⟨_, _, pre0 _ ?_, hrun, hended, _, _, rfl, ?_, ⟨_, rfl⟩, hW, hsame.mono (by decide) (by decide)⟩
  · show Steps p.tables e below (s₁.setTop (mkF m 0 #[.val (.ref a1), .val (.ref a2)] [])) _
    refine XS.aloadN X0.here hx rfl (hb hby d67_7_0) rfl rfl ?_
    refine XS.aloadN X0.here hx rfl (hb hby d67_7_1) rfl rfl ?_
    refine st1.trans ?_
    show Steps p.tables e below (T1.setTop (mkF m 5 #[.val (.ref a1), .val (.ref a2)] [(.ref a1)])) _
    refine XS.pop X1.here hx rfl (hb hby d67_7_5) rfl rfl ?_
    refine XS.aloadN X1.here hx rfl (hb hby d67_7_6) rfl rfl ?_
    exact X1.areturnOut hx rfl Bd.returns rfl (hb hby d67_7_7) hr
  · show Q_rmSA Z a1 a2 t1 cn c2 t2 k2 z L2 k1 cap L1 L3 zc h0 n0 _ T1.heap _
    exact ⟨rfl, N1, Q1, p1_0, p1_1, p1_2, p1_3⟩
theorem d29_65_0 : decode jdk_29_method_65_code 0 = .ok (.iload_n 0, 1) := by decide +kernel
theorem d29_65_1 : decode jdk_29_method_65_code 1 = .ok (.iload_n 1, 1) := by decide +kernel
theorem d29_65_2 : decode jdk_29_method_65_code 2 = .ok (.if_icmp .lt 7, 3) := by decide +kernel
theorem d29_65_9 : decode jdk_29_method_65_code 9 = .ok (.iload_n 1, 1) := by decide +kernel
theorem d29_65_10 : decode jdk_29_method_65_code 10 = .ok (.ireturn, 1) := by decide +kernel
def Q_rmMx_18 (Z : State) (p1 : Int32) (h0 : Heap) (n0 : Nat) (v : Option Value) (h : Heap) (L : List Loc) : Prop := v = some (.int 18) ∧ Fr n0 L ∧ h = h0
theorem ef_6 (m : MethodId) (x0 : Int32) (x1 : Int32) : entryFrame m #[(.int x0), (.int x1)] 2 = mkF m 0 #[.val (.int x0), .val (.int x1)] [] := by first | (simp [entryFrame, mkF, argsToLocals, Value.category]; done) | rfl
set_option maxRecDepth 65536 in
set_option maxHeartbeats 40000000 in
theorem rmMx_18 (l : Launch) (Z : State) (a0 : Array Value) (hw : ∀ d ∈ tables_1, d.before a0 Z = true) (ws : List Jvm.Cond) (p1 : Int32) (h0 : Heap) (n0 : Nat) (Z0 : n0 ≤ h0.size) (hmx : p1 < (18 : Int32)) :
    MetFree l (⟨"java/lang/Math", "max", "(II)I"⟩ : MethodName) (head1 (Jvm.Cond.code (⟨"java/lang/Math", "max", "(II)I"⟩ : MethodName) jdk_29_method_65_code 2 (some .int) :: ws) ({ frames := 0, cells := 0, slots := 0, locals := 0 } : Room)) (fun a U => a = #[(.int p1), (.int 18)] ∧ Z.Warmed39 U.vm ∧ U.heap = h0) (fun _ _ _ _ _ => True) (fun _ U o U' => ∃ v L, o = .returned v ∧ Q_rmMx_18 Z p1 h0 n0 v U'.heap L ∧ FrameEnd U o U' L ({ frames := 0, cells := 0, slots := 0, locals := 0 } : Room).cells ({ frames := 0, cells := 0, slots := 0, locals := 0 } : Room).slots) := by
  refine MetFree.of_bodySF (Jvm.Free.JP.mathPlain rfl (by decide +kernel)) hisR ?_
  intro p e s m args below meth c s₁ Bd hml0 hP hK
  obtain ⟨rfl, hZ, hh⟩ := hP
  have hx := Bd.exec
  have hby := Bd.bytes
  have hml : c.maxLocals = 2 := hml0
  have hown : s.vm.findClass "java/lang/Math" = some m.cls := findClass_of_methodNamed Bd.named
  have hnm := (name_of_methodNamed Bd.named Bd.method).1
  have X0 : Stand p l e ({ frames := 0, cells := 0, slots := 0, locals := 0 } : Room) s m #[(.int p1), (.int 18)] below meth c s₁ [] 0 0 := Stand.of_body Bd
  have e0 : s₁.heap = h0 := by rw [← hh, Bd.state]; rfl
  have N0 := Fr.nil n0
  have pre0 : ∀ t, Steps p.tables e below (s₁.setTop (mkF m 0 #[.val (.int p1), .val (.int 18)] [])) t → Steps p.tables e below (s₁.setTop (entryFrame m #[(.int p1), (.int 18)] 2)) t := fun t k => castTop (ef_6 m p1 (18 : Int32)) k
  obtain ⟨fs, hr, hrun, hended, hW, hsame⟩ := X0.leave (v := some (.int 18)) (fun h => by rw [Bd.returns] at h; cases h)
  refine ⟨_, _, pre0 _ ?_, hrun, hended, _, _, rfl, ?_, ⟨_, rfl⟩, hW, hsame.mono (by decide) (by decide)⟩
  · show Steps p.tables e below (s₁.setTop (mkF m 0 #[.val (.int p1), .val (.int 18)] [])) _
    refine XS.iloadN X0.here hx rfl (hb hby d29_65_0) rfl ?_
    refine XS.iloadN X0.here hx rfl (hb hby d29_65_1) rfl ?_
    refine XS.icmpYes X0.here hx rfl (pc0 := 2) (pc' := 9) rfl (hb hby d29_65_2) rfl (tlt hmx).1 (by decide) (by decide) ?_
    show Steps p.tables e below (s₁.setTop (mkF m 9 #[.val (.int p1), .val (.int 18)] [])) _
    refine XS.iloadN X0.here hx rfl (hb hby d29_65_9) rfl ?_
    exact retI X0 hx Bd.returns (hb hby d29_65_10) hr
  · show Q_rmMx_18 Z p1 h0 n0 _ s₁.heap _
    rw [e0]
    exact ⟨rfl, N0, rfl⟩
def Q_rmMx_36 (Z : State) (p1 : Int32) (h0 : Heap) (n0 : Nat) (v : Option Value) (h : Heap) (L : List Loc) : Prop := v = some (.int 36) ∧ Fr n0 L ∧ h = h0
set_option maxRecDepth 65536 in
set_option maxHeartbeats 40000000 in
theorem rmMx_36 (l : Launch) (Z : State) (a0 : Array Value) (hw : ∀ d ∈ tables_1, d.before a0 Z = true) (ws : List Jvm.Cond) (p1 : Int32) (h0 : Heap) (n0 : Nat) (Z0 : n0 ≤ h0.size) (hmx : p1 < (36 : Int32)) :
    MetFree l (⟨"java/lang/Math", "max", "(II)I"⟩ : MethodName) (head1 (Jvm.Cond.code (⟨"java/lang/Math", "max", "(II)I"⟩ : MethodName) jdk_29_method_65_code 2 (some .int) :: ws) ({ frames := 0, cells := 0, slots := 0, locals := 0 } : Room)) (fun a U => a = #[(.int p1), (.int 36)] ∧ Z.Warmed39 U.vm ∧ U.heap = h0) (fun _ _ _ _ _ => True) (fun _ U o U' => ∃ v L, o = .returned v ∧ Q_rmMx_36 Z p1 h0 n0 v U'.heap L ∧ FrameEnd U o U' L ({ frames := 0, cells := 0, slots := 0, locals := 0 } : Room).cells ({ frames := 0, cells := 0, slots := 0, locals := 0 } : Room).slots) := by
  refine MetFree.of_bodySF (Jvm.Free.JP.mathPlain rfl (by decide +kernel)) hisR ?_
  intro p e s m args below meth c s₁ Bd hml0 hP hK
  obtain ⟨rfl, hZ, hh⟩ := hP
  have hx := Bd.exec
  have hby := Bd.bytes
  have hml : c.maxLocals = 2 := hml0
  have hown : s.vm.findClass "java/lang/Math" = some m.cls := findClass_of_methodNamed Bd.named
  have hnm := (name_of_methodNamed Bd.named Bd.method).1
  have X0 : Stand p l e ({ frames := 0, cells := 0, slots := 0, locals := 0 } : Room) s m #[(.int p1), (.int 36)] below meth c s₁ [] 0 0 := Stand.of_body Bd
  have e0 : s₁.heap = h0 := by rw [← hh, Bd.state]; rfl
  have N0 := Fr.nil n0
  have pre0 : ∀ t, Steps p.tables e below (s₁.setTop (mkF m 0 #[.val (.int p1), .val (.int 36)] [])) t → Steps p.tables e below (s₁.setTop (entryFrame m #[(.int p1), (.int 36)] 2)) t := fun t k => castTop (ef_6 m p1 (36 : Int32)) k
  obtain ⟨fs, hr, hrun, hended, hW, hsame⟩ := X0.leave (v := some (.int 36)) (fun h => by rw [Bd.returns] at h; cases h)
  refine ⟨_, _, pre0 _ ?_, hrun, hended, _, _, rfl, ?_, ⟨_, rfl⟩, hW, hsame.mono (by decide) (by decide)⟩
  · show Steps p.tables e below (s₁.setTop (mkF m 0 #[.val (.int p1), .val (.int 36)] [])) _
    refine XS.iloadN X0.here hx rfl (hb hby d29_65_0) rfl ?_
    refine XS.iloadN X0.here hx rfl (hb hby d29_65_1) rfl ?_
    refine XS.icmpYes X0.here hx rfl (pc0 := 2) (pc' := 9) rfl (hb hby d29_65_2) rfl (tlt hmx).1 (by decide) (by decide) ?_
    show Steps p.tables e below (s₁.setTop (mkF m 9 #[.val (.int p1), .val (.int 36)] [])) _
    refine XS.iloadN X0.here hx rfl (hb hby d29_65_9) rfl ?_
    exact retI X0 hx Bd.returns (hb hby d29_65_10) hr
  · show Q_rmMx_36 Z p1 h0 n0 _ s₁.heap _
    rw [e0]
    exact ⟨rfl, N0, rfl⟩
theorem d29_69_0 : decode jdk_29_method_69_code 0 = .ok (.iload_n 0, 1) := by decide +kernel
theorem d29_69_1 : decode jdk_29_method_69_code 1 = .ok (.iload_n 1, 1) := by decide +kernel
theorem d29_69_2 : decode jdk_29_method_69_code 2 = .ok (.if_icmp .gt 7, 3) := by decide +kernel
theorem d29_69_5 : decode jdk_29_method_69_code 5 = .ok (.iload_n 0, 1) := by decide +kernel
theorem d29_69_6 : decode jdk_29_method_69_code 6 = .ok (.goto 4, 3) := by decide +kernel
theorem d29_69_10 : decode jdk_29_method_69_code 10 = .ok (.ireturn, 1) := by decide +kernel
def Q_rmMn_16_34 (Z : State)  (h0 : Heap) (n0 : Nat) (v : Option Value) (h : Heap) (L : List Loc) : Prop := v = some (.int 16) ∧ Fr n0 L ∧ h = h0
set_option maxRecDepth 65536 in
set_option maxHeartbeats 40000000 in
theorem rmMn_16_34 (l : Launch) (Z : State) (a0 : Array Value) (hw : ∀ d ∈ tables_1, d.before a0 Z = true) (ws : List Jvm.Cond)  (h0 : Heap) (n0 : Nat) (Z0 : n0 ≤ h0.size) :
    MetFree l (⟨"java/lang/Math", "min", "(II)I"⟩ : MethodName) (head1 (Jvm.Cond.code (⟨"java/lang/Math", "min", "(II)I"⟩ : MethodName) jdk_29_method_69_code 2 (some .int) :: ws) ({ frames := 0, cells := 0, slots := 0, locals := 0 } : Room)) (fun a U => a = #[(.int 16), (.int 34)] ∧ Z.Warmed39 U.vm ∧ U.heap = h0) (fun _ _ _ _ _ => True) (fun _ U o U' => ∃ v L, o = .returned v ∧ Q_rmMn_16_34 Z  h0 n0 v U'.heap L ∧ FrameEnd U o U' L ({ frames := 0, cells := 0, slots := 0, locals := 0 } : Room).cells ({ frames := 0, cells := 0, slots := 0, locals := 0 } : Room).slots) := by
  refine MetFree.of_bodySF (Jvm.Free.JP.mathPlain rfl (by decide +kernel)) hisR ?_
  intro p e s m args below meth c s₁ Bd hml0 hP hK
  obtain ⟨rfl, hZ, hh⟩ := hP
  have hx := Bd.exec
  have hby := Bd.bytes
  have hml : c.maxLocals = 2 := hml0
  have hown : s.vm.findClass "java/lang/Math" = some m.cls := findClass_of_methodNamed Bd.named
  have hnm := (name_of_methodNamed Bd.named Bd.method).1
  have X0 : Stand p l e ({ frames := 0, cells := 0, slots := 0, locals := 0 } : Room) s m #[(.int 16), (.int 34)] below meth c s₁ [] 0 0 := Stand.of_body Bd
  have e0 : s₁.heap = h0 := by rw [← hh, Bd.state]; rfl
  have N0 := Fr.nil n0
  have pre0 : ∀ t, Steps p.tables e below (s₁.setTop (mkF m 0 #[.val (.int 16), .val (.int 34)] [])) t → Steps p.tables e below (s₁.setTop (entryFrame m #[(.int 16), (.int 34)] 2)) t := fun t k => castTop (ef_6 m (16 : Int32) (34 : Int32)) k
  obtain ⟨fs, hr, hrun, hended, hW, hsame⟩ := X0.leave (v := some (.int 16)) (fun h => by rw [Bd.returns] at h; cases h)
  refine ⟨_, _, pre0 _ ?_, hrun, hended, _, _, rfl, ?_, ⟨_, rfl⟩, hW, hsame.mono (by decide) (by decide)⟩
  · show Steps p.tables e below (s₁.setTop (mkF m 0 #[.val (.int 16), .val (.int 34)] [])) _
    refine XS.iloadN X0.here hx rfl (hb hby d29_69_0) rfl ?_
    refine XS.iloadN X0.here hx rfl (hb hby d29_69_1) rfl ?_
    refine XS.icmpNo X0.here hx rfl (hb hby d29_69_2) rfl (flt (by decide : ¬ ((34 : Int32) < (16 : Int32)))).2.2.1 ?_
    show Steps p.tables e below (s₁.setTop (mkF m 5 #[.val (.int 16), .val (.int 34)] [])) _
    refine XS.iloadN X0.here hx rfl (hb hby d29_69_5) rfl ?_
    refine XS.goto X0.here hx rfl (pc0 := 6) (pc' := 10) rfl (hb hby d29_69_6) (by decide) (by decide) ?_
    show Steps p.tables e below (s₁.setTop (mkF m 10 #[.val (.int 16), .val (.int 34)] [(.int 16)])) _
    exact retI X0 hx Bd.returns (hb hby d29_69_10) hr
  · show Q_rmMn_16_34 Z  h0 n0 _ s₁.heap _
    rw [e0]
    exact ⟨rfl, N0, rfl⟩
def Q_rmMn_34_70 (Z : State)  (h0 : Heap) (n0 : Nat) (v : Option Value) (h : Heap) (L : List Loc) : Prop := v = some (.int 34) ∧ Fr n0 L ∧ h = h0
set_option maxRecDepth 65536 in
set_option maxHeartbeats 40000000 in
theorem rmMn_34_70 (l : Launch) (Z : State) (a0 : Array Value) (hw : ∀ d ∈ tables_1, d.before a0 Z = true) (ws : List Jvm.Cond)  (h0 : Heap) (n0 : Nat) (Z0 : n0 ≤ h0.size) :
    MetFree l (⟨"java/lang/Math", "min", "(II)I"⟩ : MethodName) (head1 (Jvm.Cond.code (⟨"java/lang/Math", "min", "(II)I"⟩ : MethodName) jdk_29_method_69_code 2 (some .int) :: ws) ({ frames := 0, cells := 0, slots := 0, locals := 0 } : Room)) (fun a U => a = #[(.int 34), (.int 70)] ∧ Z.Warmed39 U.vm ∧ U.heap = h0) (fun _ _ _ _ _ => True) (fun _ U o U' => ∃ v L, o = .returned v ∧ Q_rmMn_34_70 Z  h0 n0 v U'.heap L ∧ FrameEnd U o U' L ({ frames := 0, cells := 0, slots := 0, locals := 0 } : Room).cells ({ frames := 0, cells := 0, slots := 0, locals := 0 } : Room).slots) := by
  refine MetFree.of_bodySF (Jvm.Free.JP.mathPlain rfl (by decide +kernel)) hisR ?_
  intro p e s m args below meth c s₁ Bd hml0 hP hK
  obtain ⟨rfl, hZ, hh⟩ := hP
  have hx := Bd.exec
  have hby := Bd.bytes
  have hml : c.maxLocals = 2 := hml0
  have hown : s.vm.findClass "java/lang/Math" = some m.cls := findClass_of_methodNamed Bd.named
  have hnm := (name_of_methodNamed Bd.named Bd.method).1
  have X0 : Stand p l e ({ frames := 0, cells := 0, slots := 0, locals := 0 } : Room) s m #[(.int 34), (.int 70)] below meth c s₁ [] 0 0 := Stand.of_body Bd
  have e0 : s₁.heap = h0 := by rw [← hh, Bd.state]; rfl
  have N0 := Fr.nil n0
  have pre0 : ∀ t, Steps p.tables e below (s₁.setTop (mkF m 0 #[.val (.int 34), .val (.int 70)] [])) t → Steps p.tables e below (s₁.setTop (entryFrame m #[(.int 34), (.int 70)] 2)) t := fun t k => castTop (ef_6 m (34 : Int32) (70 : Int32)) k
  obtain ⟨fs, hr, hrun, hended, hW, hsame⟩ := X0.leave (v := some (.int 34)) (fun h => by rw [Bd.returns] at h; cases h)
  refine ⟨_, _, pre0 _ ?_, hrun, hended, _, _, rfl, ?_, ⟨_, rfl⟩, hW, hsame.mono (by decide) (by decide)⟩
  · show Steps p.tables e below (s₁.setTop (mkF m 0 #[.val (.int 34), .val (.int 70)] [])) _
    refine XS.iloadN X0.here hx rfl (hb hby d29_69_0) rfl ?_
    refine XS.iloadN X0.here hx rfl (hb hby d29_69_1) rfl ?_
    refine XS.icmpNo X0.here hx rfl (hb hby d29_69_2) rfl (flt (by decide : ¬ ((70 : Int32) < (34 : Int32)))).2.2.1 ?_
    show Steps p.tables e below (s₁.setTop (mkF m 5 #[.val (.int 34), .val (.int 70)] [])) _
    refine XS.iloadN X0.here hx rfl (hb hby d29_69_5) rfl ?_
    refine XS.goto X0.here hx rfl (pc0 := 6) (pc' := 10) rfl (hb hby d29_69_6) (by decide) (by decide) ?_
    show Steps p.tables e below (s₁.setTop (mkF m 10 #[.val (.int 34), .val (.int 70)] [(.int 34)])) _
    exact retI X0 hx Bd.returns (hb hby d29_69_10) hr
  · show Q_rmMn_34_70 Z  h0 n0 _ s₁.heap _
    rw [e0]
    exact ⟨rfl, N0, rfl⟩
theorem d29_69_9 : decode jdk_29_method_69_code 9 = .ok (.iload_n 1, 1) := by decide +kernel
def Q_rmMn_70_44 (Z : State)  (h0 : Heap) (n0 : Nat) (v : Option Value) (h : Heap) (L : List Loc) : Prop := v = some (.int 44) ∧ Fr n0 L ∧ h = h0
set_option maxRecDepth 65536 in
set_option maxHeartbeats 40000000 in
theorem rmMn_70_44 (l : Launch) (Z : State) (a0 : Array Value) (hw : ∀ d ∈ tables_1, d.before a0 Z = true) (ws : List Jvm.Cond)  (h0 : Heap) (n0 : Nat) (Z0 : n0 ≤ h0.size) :
    MetFree l (⟨"java/lang/Math", "min", "(II)I"⟩ : MethodName) (head1 (Jvm.Cond.code (⟨"java/lang/Math", "min", "(II)I"⟩ : MethodName) jdk_29_method_69_code 2 (some .int) :: ws) ({ frames := 0, cells := 0, slots := 0, locals := 0 } : Room)) (fun a U => a = #[(.int 70), (.int 44)] ∧ Z.Warmed39 U.vm ∧ U.heap = h0) (fun _ _ _ _ _ => True) (fun _ U o U' => ∃ v L, o = .returned v ∧ Q_rmMn_70_44 Z  h0 n0 v U'.heap L ∧ FrameEnd U o U' L ({ frames := 0, cells := 0, slots := 0, locals := 0 } : Room).cells ({ frames := 0, cells := 0, slots := 0, locals := 0 } : Room).slots) := by
  refine MetFree.of_bodySF (Jvm.Free.JP.mathPlain rfl (by decide +kernel)) hisR ?_
  intro p e s m args below meth c s₁ Bd hml0 hP hK
  obtain ⟨rfl, hZ, hh⟩ := hP
  have hx := Bd.exec
  have hby := Bd.bytes
  have hml : c.maxLocals = 2 := hml0
  have hown : s.vm.findClass "java/lang/Math" = some m.cls := findClass_of_methodNamed Bd.named
  have hnm := (name_of_methodNamed Bd.named Bd.method).1
  have X0 : Stand p l e ({ frames := 0, cells := 0, slots := 0, locals := 0 } : Room) s m #[(.int 70), (.int 44)] below meth c s₁ [] 0 0 := Stand.of_body Bd
  have e0 : s₁.heap = h0 := by rw [← hh, Bd.state]; rfl
  have N0 := Fr.nil n0
  have pre0 : ∀ t, Steps p.tables e below (s₁.setTop (mkF m 0 #[.val (.int 70), .val (.int 44)] [])) t → Steps p.tables e below (s₁.setTop (entryFrame m #[(.int 70), (.int 44)] 2)) t := fun t k => castTop (ef_6 m (70 : Int32) (44 : Int32)) k
  obtain ⟨fs, hr, hrun, hended, hW, hsame⟩ := X0.leave (v := some (.int 44)) (fun h => by rw [Bd.returns] at h; cases h)
  refine ⟨_, _, pre0 _ ?_, hrun, hended, _, _, rfl, ?_, ⟨_, rfl⟩, hW, hsame.mono (by decide) (by decide)⟩
  · show Steps p.tables e below (s₁.setTop (mkF m 0 #[.val (.int 70), .val (.int 44)] [])) _
    refine XS.iloadN X0.here hx rfl (hb hby d29_69_0) rfl ?_
    refine XS.iloadN X0.here hx rfl (hb hby d29_69_1) rfl ?_
    refine XS.icmpYes X0.here hx rfl (pc0 := 2) (pc' := 9) rfl (hb hby d29_69_2) rfl (tlt (by decide : (44 : Int32) < (70 : Int32))).2.2.1 (by decide) (by decide) ?_
    show Steps p.tables e below (s₁.setTop (mkF m 9 #[.val (.int 70), .val (.int 44)] [])) _
    refine XS.iloadN X0.here hx rfl (hb hby d29_69_9) rfl ?_
    exact retI X0 hx Bd.returns (hb hby d29_69_10) hr
  · show Q_rmMn_70_44 Z  h0 n0 _ s₁.heap _
    rw [e0]
    exact ⟨rfl, N0, rfl⟩
def Q_rmMn_70_47 (Z : State)  (h0 : Heap) (n0 : Nat) (v : Option Value) (h : Heap) (L : List Loc) : Prop := v = some (.int 47) ∧ Fr n0 L ∧ h = h0
set_option maxRecDepth 65536 in
set_option maxHeartbeats 40000000 in
theorem rmMn_70_47 (l : Launch) (Z : State) (a0 : Array Value) (hw : ∀ d ∈ tables_1, d.before a0 Z = true) (ws : List Jvm.Cond)  (h0 : Heap) (n0 : Nat) (Z0 : n0 ≤ h0.size) :
    MetFree l (⟨"java/lang/Math", "min", "(II)I"⟩ : MethodName) (head1 (Jvm.Cond.code (⟨"java/lang/Math", "min", "(II)I"⟩ : MethodName) jdk_29_method_69_code 2 (some .int) :: ws) ({ frames := 0, cells := 0, slots := 0, locals := 0 } : Room)) (fun a U => a = #[(.int 70), (.int 47)] ∧ Z.Warmed39 U.vm ∧ U.heap = h0) (fun _ _ _ _ _ => True) (fun _ U o U' => ∃ v L, o = .returned v ∧ Q_rmMn_70_47 Z  h0 n0 v U'.heap L ∧ FrameEnd U o U' L ({ frames := 0, cells := 0, slots := 0, locals := 0 } : Room).cells ({ frames := 0, cells := 0, slots := 0, locals := 0 } : Room).slots) := by
  refine MetFree.of_bodySF (Jvm.Free.JP.mathPlain rfl (by decide +kernel)) hisR ?_
  intro p e s m args below meth c s₁ Bd hml0 hP hK
  obtain ⟨rfl, hZ, hh⟩ := hP
  have hx := Bd.exec
  have hby := Bd.bytes
  have hml : c.maxLocals = 2 := hml0
  have hown : s.vm.findClass "java/lang/Math" = some m.cls := findClass_of_methodNamed Bd.named
  have hnm := (name_of_methodNamed Bd.named Bd.method).1
  have X0 : Stand p l e ({ frames := 0, cells := 0, slots := 0, locals := 0 } : Room) s m #[(.int 70), (.int 47)] below meth c s₁ [] 0 0 := Stand.of_body Bd
  have e0 : s₁.heap = h0 := by rw [← hh, Bd.state]; rfl
  have N0 := Fr.nil n0
  have pre0 : ∀ t, Steps p.tables e below (s₁.setTop (mkF m 0 #[.val (.int 70), .val (.int 47)] [])) t → Steps p.tables e below (s₁.setTop (entryFrame m #[(.int 70), (.int 47)] 2)) t := fun t k => castTop (ef_6 m (70 : Int32) (47 : Int32)) k
  obtain ⟨fs, hr, hrun, hended, hW, hsame⟩ := X0.leave (v := some (.int 47)) (fun h => by rw [Bd.returns] at h; cases h)
  refine ⟨_, _, pre0 _ ?_, hrun, hended, _, _, rfl, ?_, ⟨_, rfl⟩, hW, hsame.mono (by decide) (by decide)⟩
  · show Steps p.tables e below (s₁.setTop (mkF m 0 #[.val (.int 70), .val (.int 47)] [])) _
    refine XS.iloadN X0.here hx rfl (hb hby d29_69_0) rfl ?_
    refine XS.iloadN X0.here hx rfl (hb hby d29_69_1) rfl ?_
    refine XS.icmpYes X0.here hx rfl (pc0 := 2) (pc' := 9) rfl (hb hby d29_69_2) rfl (tlt (by decide : (47 : Int32) < (70 : Int32))).2.2.1 (by decide) (by decide) ?_
    show Steps p.tables e below (s₁.setTop (mkF m 9 #[.val (.int 70), .val (.int 47)] [])) _
    refine XS.iloadN X0.here hx rfl (hb hby d29_69_9) rfl ?_
    exact retI X0 hx Bd.returns (hb hby d29_69_10) hr
  · show Q_rmMn_70_47 Z  h0 n0 _ s₁.heap _
    rw [e0]
    exact ⟨rfl, N0, rfl⟩
theorem d48_27_0 : decode jdk_48_method_27_code 0 = .ok (.iload_n 0, 1) := by decide +kernel
theorem d48_27_1 : decode jdk_48_method_27_code 1 = .ok (.iload_n 1, 1) := by decide +kernel
theorem d48_27_2 : decode jdk_48_method_27_code 2 = .ok (.iload_n 2, 1) := by decide +kernel
theorem d48_27_3 : decode jdk_48_method_27_code 3 = .ok (.invokestatic 194, 3) := by decide +kernel
theorem pd_7 : parseMethodDescriptor "(II)I" = some ⟨[.int, .int], some .int⟩ := by decide +kernel
theorem d48_27_6 : decode jdk_48_method_27_code 6 = .ok (.iadd, 1) := by decide +kernel
theorem d48_27_7 : decode jdk_48_method_27_code 7 = .ok (.istore_n 3, 1) := by decide +kernel
theorem d48_27_8 : decode jdk_48_method_27_code 8 = .ok (.iconst 0, 1) := by decide +kernel
theorem d48_27_9 : decode jdk_48_method_27_code 9 = .ok (.iload_n 3, 1) := by decide +kernel
theorem d48_27_10 : decode jdk_48_method_27_code 10 = .ok (.if_icmp .ge 11, 3) := by decide +kernel
theorem d48_27_13 : decode jdk_48_method_27_code 13 = .ok (.iload_n 3, 1) := by decide +kernel
theorem d48_27_14 : decode jdk_48_method_27_code 14 = .ok (.ldc 200, 2) := by decide +kernel
theorem d48_27_16 : decode jdk_48_method_27_code 16 = .ok (.if_icmp .gt 5, 3) := by decide +kernel
theorem d48_27_19 : decode jdk_48_method_27_code 19 = .ok (.iload_n 3, 1) := by decide +kernel
theorem d48_27_20 : decode jdk_48_method_27_code 20 = .ok (.ireturn, 1) := by decide +kernel
def Q_rmNL_16 (Z : State) (p1 : Int32) (h0 : Heap) (n0 : Nat) (v : Option Value) (h : Heap) (L : List Loc) : Prop := v = some (.int 34) ∧ Fr n0 L ∧ h = h0
theorem pn_3 : plainName "jdk/internal/util/ArraysSupport" = true := by first | (simp [plainName, overriddenIn]; done) | decide +kernel
theorem ef_7 (m : MethodId) (x0 : Int32) (x1 : Int32) (x2 : Int32) : entryFrame m #[(.int x0), (.int x1), (.int x2)] 4 = mkF m 0 #[.val (.int x0), .val (.int x1), .val (.int x2), .unset] [] := by first | (simp [entryFrame, mkF, argsToLocals, Value.category]; done) | rfl
set_option maxRecDepth 65536 in
set_option maxHeartbeats 40000000 in
theorem rmNL_16 (l : Launch) (Z : State) (a0 : Array Value) (hw : ∀ d ∈ tables_1, d.before a0 Z = true) (ws : List Jvm.Cond) (p1 : Int32) (h0 : Heap) (n0 : Nat) (Z0 : n0 ≤ h0.size) (hmx : p1 < (18 : Int32)) :
    MetFree l (⟨"jdk/internal/util/ArraysSupport", "newLength", "(III)I"⟩ : MethodName) (head1 (Jvm.Cond.code (⟨"jdk/internal/util/ArraysSupport", "newLength", "(III)I"⟩ : MethodName) jdk_48_method_27_code 4 (some .int) :: ws) ({ frames := 1, cells := 0, slots := 0, locals := 14 } : Room)) (fun a U => a = #[(.int 16), (.int p1), (.int 18)] ∧ Z.Warmed39 U.vm ∧ U.heap = h0) (fun _ _ _ _ _ => True) (fun _ U o U' => ∃ v L, o = .returned v ∧ Q_rmNL_16 Z p1 h0 n0 v U'.heap L ∧ FrameEnd U o U' L ({ frames := 1, cells := 0, slots := 0, locals := 14 } : Room).cells ({ frames := 1, cells := 0, slots := 0, locals := 14 } : Room).slots) := by
  refine MetFree.of_bodySF (plainFor_of_name pn_3) hisR ?_
  intro p e s m args below meth c s₁ Bd hml0 hP hK
  obtain ⟨rfl, hZ, hh⟩ := hP
  have hx := Bd.exec
  have hby := Bd.bytes
  have hml : c.maxLocals = 4 := hml0
  have hown : s.vm.findClass "jdk/internal/util/ArraysSupport" = some m.cls := findClass_of_methodNamed Bd.named
  have hnm := (name_of_methodNamed Bd.named Bd.method).1
  have X0 : Stand p l e ({ frames := 1, cells := 0, slots := 0, locals := 14 } : Room) s m #[(.int 16), (.int p1), (.int 18)] below meth c s₁ [] 0 0 := Stand.of_body Bd
  have e0 : s₁.heap = h0 := by rw [← hh, Bd.state]; rfl
  have N0 := Fr.nil n0
  have pre0 : ∀ t, Steps p.tables e below (s₁.setTop (mkF m 0 #[.val (.int 16), .val (.int p1), .val (.int 18), .unset] [])) t → Steps p.tables e below (s₁.setTop (entryFrame m #[(.int 16), (.int p1), (.int 18)] 4)) t := fun t k => castTop (ef_7 m (16 : Int32) p1 (18 : Int32)) k
  obtain ⟨_, _, ⟨T1, LL1, kk1, nn1⟩, -, X1, ⟨Lc1, hQ1, l1, y1, z1⟩, st1⟩ := Jvm.LawKit.callS X0 hx (y := (⟨"java/lang/Math", "max", "(II)I"⟩ : MethodName)) hown (mvT hZ (own_t hw 182 rfl)) (mvT hZ (own_t hw 183 rfl)) (mvT hZ (own_t hw 184 rfl)) (mvT hZ (own_t hw 185 rfl)) (by decide) (backOf (W := 1) (rmMx_18 l Z a0 hw [] p1 h0 n0 Z0 (hmx)) hZ (own_t hw 185 rfl) (own_t hw 184 rfl) (by decide) (by decide)) (g := (mkF m 3 #[.val (.int 16), .val (.int p1), .val (.int 18), .unset] [(.int 18), (.int p1), (.int 16)])) rfl (by rw [hml]; rfl) (argsL := [(.int p1), (.int 18)]) (rest := [(.int 16)]) (lenOf pd_7 rfl) rfl (by show 2 * 0 + _ ≤ _; exact Nat.le_of_eq rfl) (hb hby d48_27_3) (fun _ _ => ⟨rfl, e0, (by decide : 0 + 0 ≤ _), (by decide : 0 + 0 ≤ _)⟩)
  dsimp only [Pt.U, Pt.locs, Pt.cells, Pt.slots] at X1 l1 y1 z1 st1 hQ1
  subst l1 y1 z1
  obtain ⟨rfl, N1q, e1⟩ := hQ1
  have N1 := Fr.app N0 N1q
  obtain ⟨fs, hr, hrun, hended, hW, hsame⟩ := X1.leave (v := some (.int 34)) (fun h => by rw [Bd.returns] at h; cases h)
  refine ⟨_, _, pre0 _ ?_, hrun, hended, _, _, rfl, ?_, ⟨_, rfl⟩, hW, hsame.mono (by decide) (by decide)⟩
  · show Steps p.tables e below (s₁.setTop (mkF m 0 #[.val (.int 16), .val (.int p1), .val (.int 18), .unset] [])) _
    refine XS.iloadN X0.here hx rfl (hb hby d48_27_0) rfl ?_
    refine XS.iloadN X0.here hx rfl (hb hby d48_27_1) rfl ?_
    refine XS.iloadN X0.here hx rfl (hb hby d48_27_2) rfl ?_
    refine st1 _ ?_
    show Steps p.tables e below (T1.setTop (mkF m 6 #[.val (.int 16), .val (.int p1), .val (.int 18), .unset] [(.int 18), (.int 16)])) _
    refine XS.iadd X1.here hx rfl (hb hby d48_27_6) rfl ?_
    rw [(by decide : ((16 : Int32) + (18 : Int32)) = (34 : Int32))]
    show Steps p.tables e below (T1.setTop (mkF m 7 #[.val (.int 16), .val (.int p1), .val (.int 18), .unset] [(.int 34)])) _
    refine XS.istoreN X1.here hx rfl (hb hby d48_27_7) rfl (l' := #[.val (.int 16), .val (.int p1), .val (.int 18), .val (.int 34)]) rfl ?_
    show Steps p.tables e below (T1.setTop (mkF m 8 #[.val (.int 16), .val (.int p1), .val (.int 18), .val (.int 34)] [])) _
    refine XS.iconst X1.here hx rfl (hb hby d48_27_8) ?_
    refine XS.iloadN X1.here hx rfl (hb hby d48_27_9) rfl ?_
    refine XS.icmpNo X1.here hx rfl (hb hby d48_27_10) rfl (tlt (by decide : (0 : Int32) < (34 : Int32))).2.1 ?_
    show Steps p.tables e below (T1.setTop (mkF m 13 #[.val (.int 16), .val (.int p1), .val (.int 18), .val (.int 34)] [])) _
    refine XS.iloadN X1.here hx rfl (hb hby d48_27_13) rfl ?_
    refine X1.ldcI hx hown (mvT hZ (own_t hw 186 rfl)) (g := (mkF m 14 #[.val (.int 16), .val (.int p1), .val (.int 18), .val (.int 34)] [(.int 34)])) rfl (hb hby d48_27_14) ?_
    show Steps p.tables e below (T1.setTop (mkF m 16 #[.val (.int 16), .val (.int p1), .val (.int 18), .val (.int 34)] [(.int 2147483639), (.int 34)])) _
    refine XS.icmpNo X1.here hx rfl (hb hby d48_27_16) rfl (flt (by decide : ¬ ((2147483639 : Int32) < (34 : Int32)))).2.2.1 ?_
    show Steps p.tables e below (T1.setTop (mkF m 19 #[.val (.int 16), .val (.int p1), .val (.int 18), .val (.int 34)] [])) _
    refine XS.iloadN X1.here hx rfl (hb hby d48_27_19) rfl ?_
    exact retI X1 hx Bd.returns (hb hby d48_27_20) hr
  · show Q_rmNL_16 Z p1 h0 n0 _ T1.heap _
    rw [e1]
    exact ⟨rfl, N1, rfl⟩
def Q_rmNL_34 (Z : State) (p1 : Int32) (h0 : Heap) (n0 : Nat) (v : Option Value) (h : Heap) (L : List Loc) : Prop := v = some (.int 70) ∧ Fr n0 L ∧ h = h0
set_option maxRecDepth 65536 in
set_option maxHeartbeats 40000000 in
theorem rmNL_34 (l : Launch) (Z : State) (a0 : Array Value) (hw : ∀ d ∈ tables_1, d.before a0 Z = true) (ws : List Jvm.Cond) (p1 : Int32) (h0 : Heap) (n0 : Nat) (Z0 : n0 ≤ h0.size) (hmx : p1 < (36 : Int32)) :
    MetFree l (⟨"jdk/internal/util/ArraysSupport", "newLength", "(III)I"⟩ : MethodName) (head1 (Jvm.Cond.code (⟨"jdk/internal/util/ArraysSupport", "newLength", "(III)I"⟩ : MethodName) jdk_48_method_27_code 4 (some .int) :: ws) ({ frames := 1, cells := 0, slots := 0, locals := 14 } : Room)) (fun a U => a = #[(.int 34), (.int p1), (.int 36)] ∧ Z.Warmed39 U.vm ∧ U.heap = h0) (fun _ _ _ _ _ => True) (fun _ U o U' => ∃ v L, o = .returned v ∧ Q_rmNL_34 Z p1 h0 n0 v U'.heap L ∧ FrameEnd U o U' L ({ frames := 1, cells := 0, slots := 0, locals := 14 } : Room).cells ({ frames := 1, cells := 0, slots := 0, locals := 14 } : Room).slots) := by
  refine MetFree.of_bodySF (plainFor_of_name pn_3) hisR ?_
  intro p e s m args below meth c s₁ Bd hml0 hP hK
  obtain ⟨rfl, hZ, hh⟩ := hP
  have hx := Bd.exec
  have hby := Bd.bytes
  have hml : c.maxLocals = 4 := hml0
  have hown : s.vm.findClass "jdk/internal/util/ArraysSupport" = some m.cls := findClass_of_methodNamed Bd.named
  have hnm := (name_of_methodNamed Bd.named Bd.method).1
  have X0 : Stand p l e ({ frames := 1, cells := 0, slots := 0, locals := 14 } : Room) s m #[(.int 34), (.int p1), (.int 36)] below meth c s₁ [] 0 0 := Stand.of_body Bd
  have e0 : s₁.heap = h0 := by rw [← hh, Bd.state]; rfl
  have N0 := Fr.nil n0
  have pre0 : ∀ t, Steps p.tables e below (s₁.setTop (mkF m 0 #[.val (.int 34), .val (.int p1), .val (.int 36), .unset] [])) t → Steps p.tables e below (s₁.setTop (entryFrame m #[(.int 34), (.int p1), (.int 36)] 4)) t := fun t k => castTop (ef_7 m (34 : Int32) p1 (36 : Int32)) k
  obtain ⟨_, _, ⟨T1, LL1, kk1, nn1⟩, -, X1, ⟨Lc1, hQ1, l1, y1, z1⟩, st1⟩ := Jvm.LawKit.callS X0 hx (y := (⟨"java/lang/Math", "max", "(II)I"⟩ : MethodName)) hown (mvT hZ (own_t hw 182 rfl)) (mvT hZ (own_t hw 183 rfl)) (mvT hZ (own_t hw 184 rfl)) (mvT hZ (own_t hw 185 rfl)) (by decide) (backOf (W := 1) (rmMx_36 l Z a0 hw [] p1 h0 n0 Z0 (hmx)) hZ (own_t hw 185 rfl) (own_t hw 184 rfl) (by decide) (by decide)) (g := (mkF m 3 #[.val (.int 34), .val (.int p1), .val (.int 36), .unset] [(.int 36), (.int p1), (.int 34)])) rfl (by rw [hml]; rfl) (argsL := [(.int p1), (.int 36)]) (rest := [(.int 34)]) (lenOf pd_7 rfl) rfl (by show 2 * 0 + _ ≤ _; exact Nat.le_of_eq rfl) (hb hby d48_27_3) (fun _ _ => ⟨rfl, e0, (by decide : 0 + 0 ≤ _), (by decide : 0 + 0 ≤ _)⟩)
  dsimp only [Pt.U, Pt.locs, Pt.cells, Pt.slots] at X1 l1 y1 z1 st1 hQ1
  subst l1 y1 z1
  obtain ⟨rfl, N1q, e1⟩ := hQ1
  have N1 := Fr.app N0 N1q
  obtain ⟨fs, hr, hrun, hended, hW, hsame⟩ := X1.leave (v := some (.int 70)) (fun h => by rw [Bd.returns] at h; cases h)
  refine ⟨_, _, pre0 _ ?_, hrun, hended, _, _, rfl, ?_, ⟨_, rfl⟩, hW, hsame.mono (by decide) (by decide)⟩
  · show Steps p.tables e below (s₁.setTop (mkF m 0 #[.val (.int 34), .val (.int p1), .val (.int 36), .unset] [])) _
    refine XS.iloadN X0.here hx rfl (hb hby d48_27_0) rfl ?_
    refine XS.iloadN X0.here hx rfl (hb hby d48_27_1) rfl ?_
    refine XS.iloadN X0.here hx rfl (hb hby d48_27_2) rfl ?_
    refine st1 _ ?_
    show Steps p.tables e below (T1.setTop (mkF m 6 #[.val (.int 34), .val (.int p1), .val (.int 36), .unset] [(.int 36), (.int 34)])) _
    refine XS.iadd X1.here hx rfl (hb hby d48_27_6) rfl ?_
    rw [(by decide : ((34 : Int32) + (36 : Int32)) = (70 : Int32))]
    show Steps p.tables e below (T1.setTop (mkF m 7 #[.val (.int 34), .val (.int p1), .val (.int 36), .unset] [(.int 70)])) _
    refine XS.istoreN X1.here hx rfl (hb hby d48_27_7) rfl (l' := #[.val (.int 34), .val (.int p1), .val (.int 36), .val (.int 70)]) rfl ?_
    show Steps p.tables e below (T1.setTop (mkF m 8 #[.val (.int 34), .val (.int p1), .val (.int 36), .val (.int 70)] [])) _
    refine XS.iconst X1.here hx rfl (hb hby d48_27_8) ?_
    refine XS.iloadN X1.here hx rfl (hb hby d48_27_9) rfl ?_
    refine XS.icmpNo X1.here hx rfl (hb hby d48_27_10) rfl (tlt (by decide : (0 : Int32) < (70 : Int32))).2.1 ?_
    show Steps p.tables e below (T1.setTop (mkF m 13 #[.val (.int 34), .val (.int p1), .val (.int 36), .val (.int 70)] [])) _
    refine XS.iloadN X1.here hx rfl (hb hby d48_27_13) rfl ?_
    refine X1.ldcI hx hown (mvT hZ (own_t hw 186 rfl)) (g := (mkF m 14 #[.val (.int 34), .val (.int p1), .val (.int 36), .val (.int 70)] [(.int 70)])) rfl (hb hby d48_27_14) ?_
    show Steps p.tables e below (T1.setTop (mkF m 16 #[.val (.int 34), .val (.int p1), .val (.int 36), .val (.int 70)] [(.int 2147483639), (.int 70)])) _
    refine XS.icmpNo X1.here hx rfl (hb hby d48_27_16) rfl (flt (by decide : ¬ ((2147483639 : Int32) < (70 : Int32)))).2.2.1 ?_
    show Steps p.tables e below (T1.setTop (mkF m 19 #[.val (.int 34), .val (.int p1), .val (.int 36), .val (.int 70)] [])) _
    refine XS.iloadN X1.here hx rfl (hb hby d48_27_19) rfl ?_
    exact retI X1 hx Bd.returns (hb hby d48_27_20) hr
  · show Q_rmNL_34 Z p1 h0 n0 _ T1.heap _
    rw [e1]
    exact ⟨rfl, N1, rfl⟩
theorem d65_121_0 : decode jdk_65_method_121_code 0 = .ok (.iload_n 1, 1) := by decide +kernel
theorem d65_121_1 : decode jdk_65_method_121_code 1 = .ok (.aload_n 0, 1) := by decide +kernel
theorem d65_121_2 : decode jdk_65_method_121_code 2 = .ok (.arraylength, 1) := by decide +kernel
theorem d65_121_3 : decode jdk_65_method_121_code 3 = .ok (.if_icmp .ne 11, 3) := by decide +kernel
theorem d65_121_14 : decode jdk_65_method_121_code 14 = .ok (.iload_n 1, 1) := by decide +kernel
theorem d65_121_15 : decode jdk_65_method_121_code 15 = .ok (.newarray .byte, 2) := by decide +kernel
theorem d65_121_17 : decode jdk_65_method_121_code 17 = .ok (.astore_n 2, 1) := by decide +kernel
theorem d65_121_18 : decode jdk_65_method_121_code 18 = .ok (.aload_n 0, 1) := by decide +kernel
theorem d65_121_19 : decode jdk_65_method_121_code 19 = .ok (.iconst 0, 1) := by decide +kernel
theorem d65_121_20 : decode jdk_65_method_121_code 20 = .ok (.aload_n 2, 1) := by decide +kernel
theorem d65_121_21 : decode jdk_65_method_121_code 21 = .ok (.iconst 0, 1) := by decide +kernel
theorem d65_121_22 : decode jdk_65_method_121_code 22 = .ok (.aload_n 0, 1) := by decide +kernel
theorem d65_121_23 : decode jdk_65_method_121_code 23 = .ok (.arraylength, 1) := by decide +kernel
theorem d65_121_24 : decode jdk_65_method_121_code 24 = .ok (.iload_n 1, 1) := by decide +kernel
theorem d65_121_25 : decode jdk_65_method_121_code 25 = .ok (.invokestatic 304, 3) := by decide +kernel
theorem d65_121_28 : decode jdk_65_method_121_code 28 = .ok (.invokestatic 150, 3) := by decide +kernel
theorem d65_121_31 : decode jdk_65_method_121_code 31 = .ok (.aload_n 2, 1) := by decide +kernel
theorem d65_121_32 : decode jdk_65_method_121_code 32 = .ok (.areturn, 1) := by decide +kernel
def Q_rmCp_16 (Z : State) (a1 : Addr) (k1 : ClassId) (L1 : List Value) (L3 : List Value) (h0 : Heap) (n0 : Nat) (v : Option Value) (h : Heap) (L : List Loc) : Prop := ∃ (b : Addr) (kb : ClassId), v = some (.ref b) ∧ Fr n0 L ∧ Keep h0 h [] ∧ n0 ≤ b ∧ h0.size ≤ b ∧ Arv Z h b kb .byte (34 : Int32) L3 (.int 0)
theorem pn_4 : plainName "java/util/Arrays" = true := by first | (simp [plainName, overriddenIn]; done) | decide +kernel
set_option maxRecDepth 65536 in
set_option maxHeartbeats 40000000 in
theorem rmCp_16 (l : Launch) (Z : State) (a0 : Array Value) (hw : ∀ d ∈ tables_1, d.before a0 Z = true) (ws : List Jvm.Cond) (a1 : Addr) (k1 : ClassId) (L1 : List Value) (L3 : List Value) (h0 : Heap) (n0 : Nat) (Z0 : n0 ≤ h0.size) (V_a1 : Arv Z h0 a1 k1 .byte (16 : Int32) L1 (.int 0)) (hL : own_put [oz, oz, oz, oz, oz, oz, oz, oz, oz, oz, oz, oz, oz, oz, oz, oz, oz, oz, oz, oz, oz, oz, oz, oz, oz, oz, oz, oz, oz, oz, oz, oz, oz, oz] (0 : Int32) L1 (16 : Int32) = L3) :
    MetFree l (⟨"java/util/Arrays", "copyOf", "([BI)[B"⟩ : MethodName) (head1 (Jvm.Cond.code (⟨"java/util/Arrays", "copyOf", "([BI)[B"⟩ : MethodName) jdk_65_method_121_code 3 (some (.array .byte)) :: ws) ({ frames := 1, cells := 1, slots := 34, locals := 18 } : Room)) (fun a U => a = #[(.ref a1), (.int 34)] ∧ Z.Warmed39 U.vm ∧ U.heap = h0) (fun _ _ _ _ _ => True) (fun _ U o U' => ∃ v L, o = .returned v ∧ Q_rmCp_16 Z a1 k1 L1 L3 h0 n0 v U'.heap L ∧ FrameEnd U o U' L ({ frames := 1, cells := 1, slots := 34, locals := 18 } : Room).cells ({ frames := 1, cells := 1, slots := 34, locals := 18 } : Room).slots) := by
  refine MetFree.of_bodySF (plainFor_of_name pn_4) hisR ?_
  intro p e s m args below meth c s₁ Bd hml0 hP hK
  obtain ⟨rfl, hZ, hh⟩ := hP
  have hx := Bd.exec
  have hby := Bd.bytes
  have hml : c.maxLocals = 3 := hml0
  have hown : s.vm.findClass "java/util/Arrays" = some m.cls := findClass_of_methodNamed Bd.named
  have hnm := (name_of_methodNamed Bd.named Bd.method).1
  have X0 : Stand p l e ({ frames := 1, cells := 1, slots := 34, locals := 18 } : Room) s m #[(.ref a1), (.int 34)] below meth c s₁ [] 0 0 := Stand.of_body Bd
  have e0 : s₁.heap = h0 := by rw [← hh, Bd.state]; rfl
  have N0 := Fr.nil n0
  have pre0 : ∀ t, Steps p.tables e below (s₁.setTop (mkF m 0 #[.val (.ref a1), .val (.int 34), .unset] [])) t → Steps p.tables e below (s₁.setTop (entryFrame m #[(.ref a1), (.int 34)] 3)) t := fun t k => castTop (ef_4 m a1 (34 : Int32)) k
  obtain ⟨cl1, Ar1, q1, S1, M1, H1, G1⟩ := id V_a1
  obtain ⟨T2, h2, k2, X2, e2, E2, A2, st2⟩ := newP X0 hx hZ (own_t hw 19 rfl) e0 (g := (mkF m 15 #[.val (.ref a1), .val (.int 34), .unset] [(.int 34)])) rfl (hb hby d65_121_15) rfl (by decide) (cap := 34) (by decide) (by decide) (by decide) (by decide)
  obtain ⟨b2, gg2⟩ : ∃ z, z = h0.size := ⟨_, rfl⟩
  rw [← gg2] at A2 st2
  have g_b2 : n0 ≤ b2 := Nat.le_trans Z0 (Nat.le_of_eq gg2.symm)
  have sz_b2 : h0.size ≤ b2 := Nat.le_trans (Keep.refl h0 []).1 (Nat.le_of_eq gg2.symm)
  have Q2 : Keep h0 h2 [] := (Keep.refl h0 []).ext E2
  have V_b2 : Arv Z h2 b2 k2 .byte (34 : Int32) [oz, oz, oz, oz, oz, oz, oz, oz, oz, oz, oz, oz, oz, oz, oz, oz, oz, oz, oz, oz, oz, oz, oz, oz, oz, oz, oz, oz, oz, oz, oz, oz, oz, oz] (.int 0) := (Arv.new A2 (by decide)).pad (pad_rep [] (.int 0) 34)
  obtain ⟨cl3, Ar3, q3, S3, M3, H3, G3⟩ := id (V_a1.ext E2)
  obtain ⟨_, _, ⟨T4, LL4, kk4, nn4⟩, -, X4, ⟨Lc4, hQ4, l4, y4, z4⟩, st4⟩ := Jvm.LawKit.callS X2 hx (y := (⟨"java/lang/Math", "min", "(II)I"⟩ : MethodName)) hown (mvT hZ (own_t hw 192 rfl)) (mvT hZ (own_t hw 193 rfl)) (mvT hZ (own_t hw 184 rfl)) (mvT hZ (own_t hw 194 rfl)) (by decide) (backOf (W := 4) (rmMn_16_34 l Z a0 hw []  h2 n0 (Nat.le_trans Z0 E2.1) ) hZ (own_t hw 194 rfl) (own_t hw 184 rfl) (by decide) (by decide)) (g := (mkF m 25 #[.val (.ref a1), .val (.int 34), .val (.ref b2)] [(.int 34), (.int 16), (.int 0), (.ref b2), (.int 0), (.ref a1)])) rfl (by rw [hml]; rfl) (argsL := [(.int 16), (.int 34)]) (rest := [(.int 0), (.ref b2), (.int 0), (.ref a1)]) (lenOf pd_7 rfl) rfl (by show 2 * 0 + _ ≤ _; exact Nat.le_of_eq rfl) (hb hby d65_121_25) (fun _ _ => ⟨rfl, e2, (by decide : 1 + 0 ≤ _), (by decide : 34 + 0 ≤ _)⟩)
  dsimp only [Pt.U, Pt.locs, Pt.cells, Pt.slots] at X4 l4 y4 z4 st4 hQ4
  subst l4 y4 z4
  obtain ⟨rfl, N4q, e4⟩ := hQ4
  have N4 := Fr.app N0 N4q
  obtain ⟨T5, h5, L5, X5, e5, N5, K5, V5, st5⟩ := cpA X4 hx hZ hown (own_t hw 195 rfl) (own_t hw 171 rfl) (own_t hw 169 rfl) (own_t hw 170 rfl) e4 (V_a1.ext E2) V_b2 (Or.inl ⟨rfl, rfl⟩) (by decide) (by decide) (by decide) (by decide) (by decide) (us := ((List.range ((16 : Int32)).toNatClampNeg).map fun i => (L1).getD (((0 : Int32)).toNatClampNeg + i) (.int 0))) rfl (by decide) N4 g_b2 (g := (mkF m 28 #[.val (.ref a1), .val (.int 34), .val (.ref b2)] [(.int 16), (.int 0), (.ref b2), (.int 0), (.ref a1)])) rfl (by rw [hml]; rfl) rfl (hb hby d65_121_28) (by decide) (W := 0) (by show 2 * 0 + _ ≤ _; exact Nat.le_of_eq rfl) (by decide)
  have Q5 : Keep h0 h5 [] := Q2.trans K5 (allS (Or.inr sz_b2) all0)
  obtain ⟨fs, hr, hrun, hended, hW, hsame⟩ := X5.leave (v := some (.ref b2)) (fun h => by rw [Bd.returns] at h; cases h)
  refine ⟨_, _, pre0 _ ?_, hrun, hended, _, _, rfl, ?_, ⟨_, rfl⟩, hW, hsame.mono (by decide) (by decide)⟩
  · show Steps p.tables e below (s₁.setTop (mkF m 0 #[.val (.ref a1), .val (.int 34), .unset] [])) _
    refine XS.iloadN X0.here hx rfl (hb hby d65_121_0) rfl ?_
    refine XS.aloadN X0.here hx rfl (hb hby d65_121_1) rfl rfl ?_
    refine X0.arraylength hx (by rw [e0]; exact Ar1.1) (State.isArrayOf_alike hZ.alike Ar1.2.1) (g := (mkF m 2 #[.val (.ref a1), .val (.int 34), .unset] [(.ref a1), (.int 34)])) rfl rfl (hb hby d65_121_2) _ ?_
    rw [len_of S1 M1]
    show Steps p.tables e below (s₁.setTop (mkF m 3 #[.val (.ref a1), .val (.int 34), .unset] [(.int 16), (.int 34)])) _
    refine XS.icmpYes X0.here hx rfl (pc0 := 3) (pc' := 14) rfl (hb hby d65_121_3) rfl (feq (by decide : ¬ ((34 : Int32) = (16 : Int32)))).2 (by decide) (by decide) ?_
    show Steps p.tables e below (s₁.setTop (mkF m 14 #[.val (.ref a1), .val (.int 34), .unset] [])) _
    refine XS.iloadN X0.here hx rfl (hb hby d65_121_14) rfl ?_
    refine st2 _ ?_
    show Steps p.tables e below (T2.setTop (mkF m 17 #[.val (.ref a1), .val (.int 34), .unset] [(.ref b2)])) _
    refine XS.astoreN X2.here hx rfl (hb hby d65_121_17) rfl rfl (l' := #[.val (.ref a1), .val (.int 34), .val (.ref b2)]) rfl ?_
    show Steps p.tables e below (T2.setTop (mkF m 18 #[.val (.ref a1), .val (.int 34), .val (.ref b2)] [])) _
    refine XS.aloadN X2.here hx rfl (hb hby d65_121_18) rfl rfl ?_
    refine XS.iconst X2.here hx rfl (hb hby d65_121_19) ?_
    refine XS.aloadN X2.here hx rfl (hb hby d65_121_20) rfl rfl ?_
    refine XS.iconst X2.here hx rfl (hb hby d65_121_21) ?_
    refine XS.aloadN X2.here hx rfl (hb hby d65_121_22) rfl rfl ?_
    refine X2.arraylength hx (by rw [e2]; exact Ar3.1) (State.isArrayOf_alike hZ.alike Ar3.2.1) (g := (mkF m 23 #[.val (.ref a1), .val (.int 34), .val (.ref b2)] [(.ref a1), (.int 0), (.ref b2), (.int 0), (.ref a1)])) rfl rfl (hb hby d65_121_23) _ ?_
    rw [len_of S3 M3]
    show Steps p.tables e below (T2.setTop (mkF m 24 #[.val (.ref a1), .val (.int 34), .val (.ref b2)] [(.int 16), (.int 0), (.ref b2), (.int 0), (.ref a1)])) _
    refine XS.iloadN X2.here hx rfl (hb hby d65_121_24) rfl ?_
    refine st4 _ ?_
    show Steps p.tables e below (T4.setTop (mkF m 28 #[.val (.ref a1), .val (.int 34), .val (.ref b2)] [(.int 16), (.int 0), (.ref b2), (.int 0), (.ref a1)])) _
    refine st5 _ ?_
    show Steps p.tables e below (T5.setTop (mkF m 31 #[.val (.ref a1), .val (.int 34), .val (.ref b2)] [])) _
    refine XS.aloadN X5.here hx rfl (hb hby d65_121_31) rfl rfl ?_
    exact X5.areturnOut hx rfl Bd.returns rfl (hb hby d65_121_32) hr
  · show Q_rmCp_16 Z a1 k1 L1 L3 h0 n0 _ T5.heap _
    rw [e5]
    exact ⟨b2, k2, rfl, N5, Q5, g_b2, sz_b2, (by rw [← hL]; exact V5)⟩
def Q_rmCp_34 (Z : State) (a1 : Addr) (k1 : ClassId) (L1 : List Value) (L3 : List Value) (h0 : Heap) (n0 : Nat) (v : Option Value) (h : Heap) (L : List Loc) : Prop := ∃ (b : Addr) (kb : ClassId), v = some (.ref b) ∧ Fr n0 L ∧ Keep h0 h [] ∧ n0 ≤ b ∧ h0.size ≤ b ∧ Arv Z h b kb .byte (70 : Int32) L3 (.int 0)
set_option maxRecDepth 65536 in
set_option maxHeartbeats 40000000 in
theorem rmCp_34 (l : Launch) (Z : State) (a0 : Array Value) (hw : ∀ d ∈ tables_1, d.before a0 Z = true) (ws : List Jvm.Cond) (a1 : Addr) (k1 : ClassId) (L1 : List Value) (L3 : List Value) (h0 : Heap) (n0 : Nat) (Z0 : n0 ≤ h0.size) (V_a1 : Arv Z h0 a1 k1 .byte (34 : Int32) L1 (.int 0)) (hL : own_put [oz, oz, oz, oz, oz, oz, oz, oz, oz, oz, oz, oz, oz, oz, oz, oz, oz, oz, oz, oz, oz, oz, oz, oz, oz, oz, oz, oz, oz, oz, oz, oz, oz, oz, oz, oz, oz, oz, oz, oz, oz, oz, oz, oz, oz, oz, oz, oz, oz, oz, oz, oz, oz, oz, oz, oz, oz, oz, oz, oz, oz, oz, oz, oz, oz, oz, oz, oz, oz, oz] (0 : Int32) L1 (34 : Int32) = L3) :
    MetFree l (⟨"java/util/Arrays", "copyOf", "([BI)[B"⟩ : MethodName) (head1 (Jvm.Cond.code (⟨"java/util/Arrays", "copyOf", "([BI)[B"⟩ : MethodName) jdk_65_method_121_code 3 (some (.array .byte)) :: ws) ({ frames := 1, cells := 1, slots := 70, locals := 18 } : Room)) (fun a U => a = #[(.ref a1), (.int 70)] ∧ Z.Warmed39 U.vm ∧ U.heap = h0) (fun _ _ _ _ _ => True) (fun _ U o U' => ∃ v L, o = .returned v ∧ Q_rmCp_34 Z a1 k1 L1 L3 h0 n0 v U'.heap L ∧ FrameEnd U o U' L ({ frames := 1, cells := 1, slots := 70, locals := 18 } : Room).cells ({ frames := 1, cells := 1, slots := 70, locals := 18 } : Room).slots) := by
  refine MetFree.of_bodySF (plainFor_of_name pn_4) hisR ?_
  intro p e s m args below meth c s₁ Bd hml0 hP hK
  obtain ⟨rfl, hZ, hh⟩ := hP
  have hx := Bd.exec
  have hby := Bd.bytes
  have hml : c.maxLocals = 3 := hml0
  have hown : s.vm.findClass "java/util/Arrays" = some m.cls := findClass_of_methodNamed Bd.named
  have hnm := (name_of_methodNamed Bd.named Bd.method).1
  have X0 : Stand p l e ({ frames := 1, cells := 1, slots := 70, locals := 18 } : Room) s m #[(.ref a1), (.int 70)] below meth c s₁ [] 0 0 := Stand.of_body Bd
  have e0 : s₁.heap = h0 := by rw [← hh, Bd.state]; rfl
  have N0 := Fr.nil n0
  have pre0 : ∀ t, Steps p.tables e below (s₁.setTop (mkF m 0 #[.val (.ref a1), .val (.int 70), .unset] [])) t → Steps p.tables e below (s₁.setTop (entryFrame m #[(.ref a1), (.int 70)] 3)) t := fun t k => castTop (ef_4 m a1 (70 : Int32)) k
  obtain ⟨cl1, Ar1, q1, S1, M1, H1, G1⟩ := id V_a1
  obtain ⟨T2, h2, k2, X2, e2, E2, A2, st2⟩ := newP X0 hx hZ (own_t hw 19 rfl) e0 (g := (mkF m 15 #[.val (.ref a1), .val (.int 70), .unset] [(.int 70)])) rfl (hb hby d65_121_15) rfl (by decide) (cap := 70) (by decide) (by decide) (by decide) (by decide)
  obtain ⟨b2, gg2⟩ : ∃ z, z = h0.size := ⟨_, rfl⟩
  rw [← gg2] at A2 st2
  have g_b2 : n0 ≤ b2 := Nat.le_trans Z0 (Nat.le_of_eq gg2.symm)
  have sz_b2 : h0.size ≤ b2 := Nat.le_trans (Keep.refl h0 []).1 (Nat.le_of_eq gg2.symm)
  have Q2 : Keep h0 h2 [] := (Keep.refl h0 []).ext E2
  have V_b2 : Arv Z h2 b2 k2 .byte (70 : Int32) [oz, oz, oz, oz, oz, oz, oz, oz, oz, oz, oz, oz, oz, oz, oz, oz, oz, oz, oz, oz, oz, oz, oz, oz, oz, oz, oz, oz, oz, oz, oz, oz, oz, oz, oz, oz, oz, oz, oz, oz, oz, oz, oz, oz, oz, oz, oz, oz, oz, oz, oz, oz, oz, oz, oz, oz, oz, oz, oz, oz, oz, oz, oz, oz, oz, oz, oz, oz, oz, oz] (.int 0) := (Arv.new A2 (by decide)).pad (pad_rep [] (.int 0) 70)
  obtain ⟨cl3, Ar3, q3, S3, M3, H3, G3⟩ := id (V_a1.ext E2)
  obtain ⟨_, _, ⟨T4, LL4, kk4, nn4⟩, -, X4, ⟨Lc4, hQ4, l4, y4, z4⟩, st4⟩ := Jvm.LawKit.callS X2 hx (y := (⟨"java/lang/Math", "min", "(II)I"⟩ : MethodName)) hown (mvT hZ (own_t hw 192 rfl)) (mvT hZ (own_t hw 193 rfl)) (mvT hZ (own_t hw 184 rfl)) (mvT hZ (own_t hw 194 rfl)) (by decide) (backOf (W := 4) (rmMn_34_70 l Z a0 hw []  h2 n0 (Nat.le_trans Z0 E2.1) ) hZ (own_t hw 194 rfl) (own_t hw 184 rfl) (by decide) (by decide)) (g := (mkF m 25 #[.val (.ref a1), .val (.int 70), .val (.ref b2)] [(.int 70), (.int 34), (.int 0), (.ref b2), (.int 0), (.ref a1)])) rfl (by rw [hml]; rfl) (argsL := [(.int 34), (.int 70)]) (rest := [(.int 0), (.ref b2), (.int 0), (.ref a1)]) (lenOf pd_7 rfl) rfl (by show 2 * 0 + _ ≤ _; exact Nat.le_of_eq rfl) (hb hby d65_121_25) (fun _ _ => ⟨rfl, e2, (by decide : 1 + 0 ≤ _), (by decide : 70 + 0 ≤ _)⟩)
  dsimp only [Pt.U, Pt.locs, Pt.cells, Pt.slots] at X4 l4 y4 z4 st4 hQ4
  subst l4 y4 z4
  obtain ⟨rfl, N4q, e4⟩ := hQ4
  have N4 := Fr.app N0 N4q
  obtain ⟨T5, h5, L5, X5, e5, N5, K5, V5, st5⟩ := cpA X4 hx hZ hown (own_t hw 195 rfl) (own_t hw 171 rfl) (own_t hw 169 rfl) (own_t hw 170 rfl) e4 (V_a1.ext E2) V_b2 (Or.inl ⟨rfl, rfl⟩) (by decide) (by decide) (by decide) (by decide) (by decide) (us := ((List.range ((34 : Int32)).toNatClampNeg).map fun i => (L1).getD (((0 : Int32)).toNatClampNeg + i) (.int 0))) rfl (by decide) N4 g_b2 (g := (mkF m 28 #[.val (.ref a1), .val (.int 70), .val (.ref b2)] [(.int 34), (.int 0), (.ref b2), (.int 0), (.ref a1)])) rfl (by rw [hml]; rfl) rfl (hb hby d65_121_28) (by decide) (W := 0) (by show 2 * 0 + _ ≤ _; exact Nat.le_of_eq rfl) (by decide)
  have Q5 : Keep h0 h5 [] := Q2.trans K5 (allS (Or.inr sz_b2) all0)
  obtain ⟨fs, hr, hrun, hended, hW, hsame⟩ := X5.leave (v := some (.ref b2)) (fun h => by rw [Bd.returns] at h; cases h)
  refine ⟨_, _, pre0 _ ?_, hrun, hended, _, _, rfl, ?_, ⟨_, rfl⟩, hW, hsame.mono (by decide) (by decide)⟩
  · show Steps p.tables e below (s₁.setTop (mkF m 0 #[.val (.ref a1), .val (.int 70), .unset] [])) _
    refine XS.iloadN X0.here hx rfl (hb hby d65_121_0) rfl ?_
    refine XS.aloadN X0.here hx rfl (hb hby d65_121_1) rfl rfl ?_
    refine X0.arraylength hx (by rw [e0]; exact Ar1.1) (State.isArrayOf_alike hZ.alike Ar1.2.1) (g := (mkF m 2 #[.val (.ref a1), .val (.int 70), .unset] [(.ref a1), (.int 70)])) rfl rfl (hb hby d65_121_2) _ ?_
    rw [len_of S1 M1]
    show Steps p.tables e below (s₁.setTop (mkF m 3 #[.val (.ref a1), .val (.int 70), .unset] [(.int 34), (.int 70)])) _
    refine XS.icmpYes X0.here hx rfl (pc0 := 3) (pc' := 14) rfl (hb hby d65_121_3) rfl (feq (by decide : ¬ ((70 : Int32) = (34 : Int32)))).2 (by decide) (by decide) ?_
    show Steps p.tables e below (s₁.setTop (mkF m 14 #[.val (.ref a1), .val (.int 70), .unset] [])) _
    refine XS.iloadN X0.here hx rfl (hb hby d65_121_14) rfl ?_
    refine st2 _ ?_
    show Steps p.tables e below (T2.setTop (mkF m 17 #[.val (.ref a1), .val (.int 70), .unset] [(.ref b2)])) _
    refine XS.astoreN X2.here hx rfl (hb hby d65_121_17) rfl rfl (l' := #[.val (.ref a1), .val (.int 70), .val (.ref b2)]) rfl ?_
    show Steps p.tables e below (T2.setTop (mkF m 18 #[.val (.ref a1), .val (.int 70), .val (.ref b2)] [])) _
    refine XS.aloadN X2.here hx rfl (hb hby d65_121_18) rfl rfl ?_
    refine XS.iconst X2.here hx rfl (hb hby d65_121_19) ?_
    refine XS.aloadN X2.here hx rfl (hb hby d65_121_20) rfl rfl ?_
    refine XS.iconst X2.here hx rfl (hb hby d65_121_21) ?_
    refine XS.aloadN X2.here hx rfl (hb hby d65_121_22) rfl rfl ?_
    refine X2.arraylength hx (by rw [e2]; exact Ar3.1) (State.isArrayOf_alike hZ.alike Ar3.2.1) (g := (mkF m 23 #[.val (.ref a1), .val (.int 70), .val (.ref b2)] [(.ref a1), (.int 0), (.ref b2), (.int 0), (.ref a1)])) rfl rfl (hb hby d65_121_23) _ ?_
    rw [len_of S3 M3]
    show Steps p.tables e below (T2.setTop (mkF m 24 #[.val (.ref a1), .val (.int 70), .val (.ref b2)] [(.int 34), (.int 0), (.ref b2), (.int 0), (.ref a1)])) _
    refine XS.iloadN X2.here hx rfl (hb hby d65_121_24) rfl ?_
    refine st4 _ ?_
    show Steps p.tables e below (T4.setTop (mkF m 28 #[.val (.ref a1), .val (.int 70), .val (.ref b2)] [(.int 34), (.int 0), (.ref b2), (.int 0), (.ref a1)])) _
    refine st5 _ ?_
    show Steps p.tables e below (T5.setTop (mkF m 31 #[.val (.ref a1), .val (.int 70), .val (.ref b2)] [])) _
    refine XS.aloadN X5.here hx rfl (hb hby d65_121_31) rfl rfl ?_
    exact X5.areturnOut hx rfl Bd.returns rfl (hb hby d65_121_32) hr
  · show Q_rmCp_34 Z a1 k1 L1 L3 h0 n0 _ T5.heap _
    rw [e5]
    exact ⟨b2, k2, rfl, N5, Q5, g_b2, sz_b2, (by rw [← hL]; exact V5)⟩
theorem d68_10_0 : decode jdk_68_method_10_code 0 = .ok (.aload_n 0, 1) := by decide +kernel
theorem d68_10_1 : decode jdk_68_method_10_code 1 = .ok (.getfield 15, 3) := by decide +kernel
theorem d68_10_4 : decode jdk_68_method_10_code 4 = .ok (.arraylength, 1) := by decide +kernel
theorem d68_10_5 : decode jdk_68_method_10_code 5 = .ok (.istore_n 2, 1) := by decide +kernel
theorem d68_10_6 : decode jdk_68_method_10_code 6 = .ok (.iload_n 1, 1) := by decide +kernel
theorem d68_10_7 : decode jdk_68_method_10_code 7 = .ok (.aload_n 0, 1) := by decide +kernel
theorem d68_10_8 : decode jdk_68_method_10_code 8 = .ok (.getfield 22, 3) := by decide +kernel
theorem d68_10_11 : decode jdk_68_method_10_code 11 = .ok (.ishl, 1) := by decide +kernel
theorem d68_10_12 : decode jdk_68_method_10_code 12 = .ok (.istore_n 3, 1) := by decide +kernel
theorem d68_10_13 : decode jdk_68_method_10_code 13 = .ok (.iload_n 3, 1) := by decide +kernel
theorem d68_10_14 : decode jdk_68_method_10_code 14 = .ok (.iload_n 2, 1) := by decide +kernel
theorem d68_10_15 : decode jdk_68_method_10_code 15 = .ok (.isub, 1) := by decide +kernel
theorem d68_10_16 : decode jdk_68_method_10_code 16 = .ok (.istore 4, 2) := by decide +kernel
theorem d68_10_18 : decode jdk_68_method_10_code 18 = .ok (.iload_n 2, 1) := by decide +kernel
theorem d68_10_19 : decode jdk_68_method_10_code 19 = .ok (.iload 4, 2) := by decide +kernel
theorem d68_10_21 : decode jdk_68_method_10_code 21 = .ok (.iload_n 2, 1) := by decide +kernel
theorem d68_10_22 : decode jdk_68_method_10_code 22 = .ok (.iconst 2, 1) := by decide +kernel
theorem d68_10_23 : decode jdk_68_method_10_code 23 = .ok (.aload_n 0, 1) := by decide +kernel
theorem d68_10_24 : decode jdk_68_method_10_code 24 = .ok (.getfield 22, 3) := by decide +kernel
theorem d68_10_27 : decode jdk_68_method_10_code 27 = .ok (.ishl, 1) := by decide +kernel
theorem d68_10_28 : decode jdk_68_method_10_code 28 = .ok (.iadd, 1) := by decide +kernel
theorem d68_10_29 : decode jdk_68_method_10_code 29 = .ok (.invokestatic 114, 3) := by decide +kernel
theorem pd_8 : parseMethodDescriptor "(III)I" = some ⟨[.int, .int, .int], some .int⟩ := by decide +kernel
theorem d68_10_32 : decode jdk_68_method_10_code 32 = .ok (.istore 5, 2) := by decide +kernel
theorem d68_10_34 : decode jdk_68_method_10_code 34 = .ok (.iload 5, 2) := by decide +kernel
theorem d68_10_36 : decode jdk_68_method_10_code 36 = .ok (.ldc 39, 2) := by decide +kernel
theorem d68_10_38 : decode jdk_68_method_10_code 38 = .ok (.if_icmp .ne 13, 3) := by decide +kernel
theorem d68_10_51 : decode jdk_68_method_10_code 51 = .ok (.iload 5, 2) := by decide +kernel
theorem d68_10_53 : decode jdk_68_method_10_code 53 = .ok (.aload_n 0, 1) := by decide +kernel
theorem d68_10_54 : decode jdk_68_method_10_code 54 = .ok (.getfield 22, 3) := by decide +kernel
theorem d68_10_57 : decode jdk_68_method_10_code 57 = .ok (.ishr, 1) := by decide +kernel
theorem d68_10_58 : decode jdk_68_method_10_code 58 = .ok (.ireturn, 1) := by decide +kernel
def Q_rmNC_16 (Z : State) (a1 : Addr) (p2 : Int32) (t1 : Addr) (k1 : ClassId) (L1 : List Value) (h0 : Heap) (n0 : Nat) (v : Option Value) (h : Heap) (L : List Loc) : Prop := v = some (.int 34) ∧ Fr n0 L ∧ h = h0
theorem ef_8 (m : MethodId) (x0 : Addr) (x1 : Int32) : entryFrame m #[(.ref x0), (.int x1)] 6 = mkF m 0 #[.val (.ref x0), .val (.int x1), .unset, .unset, .unset, .unset] [] := by first | (simp [entryFrame, mkF, argsToLocals, Value.category]; done) | rfl
set_option maxRecDepth 65536 in
set_option maxHeartbeats 40000000 in
theorem rmNC_16 (l : Launch) (Z : State) (a0 : Array Value) (hw : ∀ d ∈ tables_1, d.before a0 Z = true) (ws : List Jvm.Cond) (a1 : Addr) (p2 : Int32) (t1 : Addr) (k1 : ClassId) (L1 : List Value) (h0 : Heap) (n0 : Nat) (Z0 : n0 ≤ h0.size) (F_value_a1 : Fld Z h0 a1 "java/lang/AbstractStringBuilder" "value" "[B" (.ref t1)) (F_coder_a1 : Fld Z h0 a1 "java/lang/AbstractStringBuilder" "coder" "B" (.int 0)) (V_t1 : Arv Z h0 t1 k1 .byte (16 : Int32) L1 (.int 0)) (hmx : (p2 - (16 : Int32)) < (18 : Int32)) :
    MetFree l (⟨"java/lang/AbstractStringBuilder", "newCapacity", "(I)I"⟩ : MethodName) (head1 (Jvm.Cond.code (⟨"java/lang/AbstractStringBuilder", "newCapacity", "(I)I"⟩ : MethodName) jdk_68_method_10_code 6 (some .int) :: ws) ({ frames := 2, cells := 0, slots := 0, locals := 29 } : Room)) (fun a U => a = #[(.ref a1), (.int p2)] ∧ Z.Warmed39 U.vm ∧ U.heap = h0) (fun _ _ _ _ _ => True) (fun _ U o U' => ∃ v L, o = .returned v ∧ Q_rmNC_16 Z a1 p2 t1 k1 L1 h0 n0 v U'.heap L ∧ FrameEnd U o U' L ({ frames := 2, cells := 0, slots := 0, locals := 29 } : Room).cells ({ frames := 2, cells := 0, slots := 0, locals := 29 } : Room).slots) := by
  refine MetFree.of_bodySF (plainFor_of_name pn_1) hisR ?_
  intro p e s m args below meth c s₁ Bd hml0 hP hK
  obtain ⟨rfl, hZ, hh⟩ := hP
  have hx := Bd.exec
  have hby := Bd.bytes
  have hml : c.maxLocals = 6 := hml0
  have hown : s.vm.findClass "java/lang/AbstractStringBuilder" = some m.cls := findClass_of_methodNamed Bd.named
  have hnm := (name_of_methodNamed Bd.named Bd.method).1
  have X0 : Stand p l e ({ frames := 2, cells := 0, slots := 0, locals := 29 } : Room) s m #[(.ref a1), (.int p2)] below meth c s₁ [] 0 0 := Stand.of_body Bd
  have e0 : s₁.heap = h0 := by rw [← hh, Bd.state]; rfl
  have N0 := Fr.nil n0
  have pre0 : ∀ t, Steps p.tables e below (s₁.setTop (mkF m 0 #[.val (.ref a1), .val (.int p2), .unset, .unset, .unset, .unset] [])) t → Steps p.tables e below (s₁.setTop (entryFrame m #[(.ref a1), (.int p2)] 6)) t := fun t k => castTop (ef_8 m a1 p2) k
  obtain ⟨T1, X1, e1, st1⟩ := getF X0 hx hZ hown (host := "") (Or.inl (own_t hw 125 rfl)) Via.refl e0 F_value_a1 (g := (mkF m 1 #[.val (.ref a1), .val (.int p2), .unset, .unset, .unset, .unset] [(.ref a1)])) rfl rfl (hb hby d68_10_1)
  obtain ⟨cl2, Ar2, q2, S2, M2, H2, G2⟩ := id V_t1
  obtain ⟨T3, X3, e3, st3⟩ := getF X1 hx hZ hown (host := "") (Or.inl (own_t hw 127 rfl)) Via.refl e1 F_coder_a1 (g := (mkF m 8 #[.val (.ref a1), .val (.int p2), .val (.int 16), .unset, .unset, .unset] [(.ref a1), (.int p2)])) rfl rfl (hb hby d68_10_8)
  obtain ⟨T4, X4, e4, st4⟩ := getF X3 hx hZ hown (host := "") (Or.inl (own_t hw 127 rfl)) Via.refl e3 F_coder_a1 (g := (mkF m 24 #[.val (.ref a1), .val (.int p2), .val (.int 16), .val (.int p2), .val (.int (p2 - (16 : Int32))), .unset] [(.ref a1), (.int 2), (.int 16), (.int (p2 - (16 : Int32))), (.int 16)])) rfl rfl (hb hby d68_10_24)
  obtain ⟨_, _, ⟨T5, LL5, kk5, nn5⟩, -, X5, ⟨Lc5, hQ5, l5, y5, z5⟩, st5⟩ := Jvm.LawKit.callS X4 hx (y := (⟨"jdk/internal/util/ArraysSupport", "newLength", "(III)I"⟩ : MethodName)) hown (mvT hZ (own_t hw 178 rfl)) (mvT hZ (own_t hw 179 rfl)) (mvT hZ (own_t hw 180 rfl)) (mvT hZ (own_t hw 181 rfl)) (by decide) (backOf (W := 0) (rmNL_16 l Z a0 hw [] (p2 - (16 : Int32)) h0 n0 Z0 (hmx)) hZ (own_t hw 181 rfl) (own_t hw 180 rfl) (by decide) (by decide)) (g := (mkF m 29 #[.val (.ref a1), .val (.int p2), .val (.int 16), .val (.int p2), .val (.int (p2 - (16 : Int32))), .unset] [(.int 18), (.int (p2 - (16 : Int32))), (.int 16)])) rfl (by rw [hml]; rfl) (argsL := [(.int 16), (.int (p2 - (16 : Int32))), (.int 18)]) (rest := []) (lenOf pd_8 rfl) rfl (by show 2 * 0 + _ ≤ _; exact Nat.le_of_eq rfl) (hb hby d68_10_29) (fun _ _ => ⟨rfl, e4, (by decide : 0 + 0 ≤ _), (by decide : 0 + 0 ≤ _)⟩)
  dsimp only [Pt.U, Pt.locs, Pt.cells, Pt.slots] at X5 l5 y5 z5 st5 hQ5
  subst l5 y5 z5
  obtain ⟨rfl, N5q, e5⟩ := hQ5
  have N5 := Fr.app N0 N5q
  obtain ⟨T6, X6, e6, st6⟩ := getF X5 hx hZ hown (host := "") (Or.inl (own_t hw 127 rfl)) Via.refl e5 F_coder_a1 (g := (mkF m 54 #[.val (.ref a1), .val (.int p2), .val (.int 16), .val (.int p2), .val (.int (p2 - (16 : Int32))), .val (.int 34)] [(.ref a1), (.int 34)])) rfl rfl (hb hby d68_10_54)
  obtain ⟨fs, hr, hrun, hended, hW, hsame⟩ := X6.leave (v := some (.int 34)) (fun h => by rw [Bd.returns] at h; cases h)
  refine ⟨_, _, pre0 _ ?_, hrun, hended, _, _, rfl, ?_, ⟨_, rfl⟩, hW, hsame.mono (by decide) (by decide)⟩
  · show Steps p.tables e below (s₁.setTop (mkF m 0 #[.val (.ref a1), .val (.int p2), .unset, .unset, .unset, .unset] [])) _
    refine XS.aloadN X0.here hx rfl (hb hby d68_10_0) rfl rfl ?_
    refine st1 _ ?_
    show Steps p.tables e below (T1.setTop (mkF m 4 #[.val (.ref a1), .val (.int p2), .unset, .unset, .unset, .unset] [(.ref t1)])) _
    refine X1.arraylength hx (by rw [e1]; exact Ar2.1) (State.isArrayOf_alike hZ.alike Ar2.2.1) (g := (mkF m 4 #[.val (.ref a1), .val (.int p2), .unset, .unset, .unset, .unset] [(.ref t1)])) rfl rfl (hb hby d68_10_4) _ ?_
    rw [len_of S2 M2]
    show Steps p.tables e below (T1.setTop (mkF m 5 #[.val (.ref a1), .val (.int p2), .unset, .unset, .unset, .unset] [(.int 16)])) _
    refine XS.istoreN X1.here hx rfl (hb hby d68_10_5) rfl (l' := #[.val (.ref a1), .val (.int p2), .val (.int 16), .unset, .unset, .unset]) rfl ?_
    show Steps p.tables e below (T1.setTop (mkF m 6 #[.val (.ref a1), .val (.int p2), .val (.int 16), .unset, .unset, .unset] [])) _
    refine XS.iloadN X1.here hx rfl (hb hby d68_10_6) rfl ?_
    refine XS.aloadN X1.here hx rfl (hb hby d68_10_7) rfl rfl ?_
    refine st3 _ ?_
    show Steps p.tables e below (T3.setTop (mkF m 11 #[.val (.ref a1), .val (.int p2), .val (.int 16), .unset, .unset, .unset] [(.int 0), (.int p2)])) _
    refine XS.ishl X3.here hx rfl (hb hby d68_10_11) rfl ?_
    rw [own_shl0]
    show Steps p.tables e below (T3.setTop (mkF m 12 #[.val (.ref a1), .val (.int p2), .val (.int 16), .unset, .unset, .unset] [(.int p2)])) _
    refine XS.istoreN X3.here hx rfl (hb hby d68_10_12) rfl (l' := #[.val (.ref a1), .val (.int p2), .val (.int 16), .val (.int p2), .unset, .unset]) rfl ?_
    show Steps p.tables e below (T3.setTop (mkF m 13 #[.val (.ref a1), .val (.int p2), .val (.int 16), .val (.int p2), .unset, .unset] [])) _
    refine XS.iloadN X3.here hx rfl (hb hby d68_10_13) rfl ?_
    refine XS.iloadN X3.here hx rfl (hb hby d68_10_14) rfl ?_
    refine XS.isub X3.here hx rfl (hb hby d68_10_15) rfl ?_
    show Steps p.tables e below (T3.setTop (mkF m 16 #[.val (.ref a1), .val (.int p2), .val (.int 16), .val (.int p2), .unset, .unset] [(.int (p2 - (16 : Int32)))])) _
    refine XS.istore X3.here hx rfl (hb hby d68_10_16) rfl (l' := #[.val (.ref a1), .val (.int p2), .val (.int 16), .val (.int p2), .val (.int (p2 - (16 : Int32))), .unset]) rfl ?_
    show Steps p.tables e below (T3.setTop (mkF m 18 #[.val (.ref a1), .val (.int p2), .val (.int 16), .val (.int p2), .val (.int (p2 - (16 : Int32))), .unset] [])) _
    refine XS.iloadN X3.here hx rfl (hb hby d68_10_18) rfl ?_
    refine XS.iload X3.here hx rfl (hb hby d68_10_19) rfl ?_
    refine XS.iloadN X3.here hx rfl (hb hby d68_10_21) rfl ?_
    refine XS.iconst X3.here hx rfl (hb hby d68_10_22) ?_
    refine XS.aloadN X3.here hx rfl (hb hby d68_10_23) rfl rfl ?_
    refine st4 _ ?_
    show Steps p.tables e below (T4.setTop (mkF m 27 #[.val (.ref a1), .val (.int p2), .val (.int 16), .val (.int p2), .val (.int (p2 - (16 : Int32))), .unset] [(.int 0), (.int 2), (.int 16), (.int (p2 - (16 : Int32))), (.int 16)])) _
    refine XS.ishl X4.here hx rfl (hb hby d68_10_27) rfl ?_
    rw [(by decide : ((2 : Int32) <<< ((0 : Int32) &&& 31)) = (2 : Int32))]
    show Steps p.tables e below (T4.setTop (mkF m 28 #[.val (.ref a1), .val (.int p2), .val (.int 16), .val (.int p2), .val (.int (p2 - (16 : Int32))), .unset] [(.int 2), (.int 16), (.int (p2 - (16 : Int32))), (.int 16)])) _
    refine XS.iadd X4.here hx rfl (hb hby d68_10_28) rfl ?_
    rw [(by decide : ((16 : Int32) + (2 : Int32)) = (18 : Int32))]
    show Steps p.tables e below (T4.setTop (mkF m 29 #[.val (.ref a1), .val (.int p2), .val (.int 16), .val (.int p2), .val (.int (p2 - (16 : Int32))), .unset] [(.int 18), (.int (p2 - (16 : Int32))), (.int 16)])) _
    refine st5 _ ?_
    show Steps p.tables e below (T5.setTop (mkF m 32 #[.val (.ref a1), .val (.int p2), .val (.int 16), .val (.int p2), .val (.int (p2 - (16 : Int32))), .unset] [(.int 34)])) _
    refine XS.istore X5.here hx rfl (hb hby d68_10_32) rfl (l' := #[.val (.ref a1), .val (.int p2), .val (.int 16), .val (.int p2), .val (.int (p2 - (16 : Int32))), .val (.int 34)]) rfl ?_
    show Steps p.tables e below (T5.setTop (mkF m 34 #[.val (.ref a1), .val (.int p2), .val (.int 16), .val (.int p2), .val (.int (p2 - (16 : Int32))), .val (.int 34)] [])) _
    refine XS.iload X5.here hx rfl (hb hby d68_10_34) rfl ?_
    refine X5.ldcI hx hown (mvT hZ (own_t hw 187 rfl)) (g := (mkF m 36 #[.val (.ref a1), .val (.int p2), .val (.int 16), .val (.int p2), .val (.int (p2 - (16 : Int32))), .val (.int 34)] [(.int 34)])) rfl (hb hby d68_10_36) ?_
    show Steps p.tables e below (T5.setTop (mkF m 38 #[.val (.ref a1), .val (.int p2), .val (.int 16), .val (.int p2), .val (.int (p2 - (16 : Int32))), .val (.int 34)] [(.int 2147483647), (.int 34)])) _
    refine XS.icmpYes X5.here hx rfl (pc0 := 38) (pc' := 51) rfl (hb hby d68_10_38) rfl (feq (by decide : ¬ ((34 : Int32) = (2147483647 : Int32)))).2 (by decide) (by decide) ?_
    show Steps p.tables e below (T5.setTop (mkF m 51 #[.val (.ref a1), .val (.int p2), .val (.int 16), .val (.int p2), .val (.int (p2 - (16 : Int32))), .val (.int 34)] [])) _
    refine XS.iload X5.here hx rfl (hb hby d68_10_51) rfl ?_
    refine XS.aloadN X5.here hx rfl (hb hby d68_10_53) rfl rfl ?_
    refine st6 _ ?_
    show Steps p.tables e below (T6.setTop (mkF m 57 #[.val (.ref a1), .val (.int p2), .val (.int 16), .val (.int p2), .val (.int (p2 - (16 : Int32))), .val (.int 34)] [(.int 0), (.int 34)])) _
    refine XS.ishr X6.here hx rfl (hb hby d68_10_57) rfl ?_
    rw [(by decide : ((34 : Int32) >>> ((0 : Int32) &&& 31)) = (34 : Int32))]
    show Steps p.tables e below (T6.setTop (mkF m 58 #[.val (.ref a1), .val (.int p2), .val (.int 16), .val (.int p2), .val (.int (p2 - (16 : Int32))), .val (.int 34)] [(.int 34)])) _
    exact retI X6 hx Bd.returns (hb hby d68_10_58) hr
  · show Q_rmNC_16 Z a1 p2 t1 k1 L1 h0 n0 _ T6.heap _
    rw [e6]
    exact ⟨rfl, N5, rfl⟩
theorem d68_9_17 : decode jdk_68_method_9_code 17 = .ok (.aload_n 0, 1) := by decide +kernel
theorem d68_9_18 : decode jdk_68_method_9_code 18 = .ok (.aload_n 0, 1) := by decide +kernel
theorem d68_9_19 : decode jdk_68_method_9_code 19 = .ok (.getfield 15, 3) := by decide +kernel
theorem d68_9_22 : decode jdk_68_method_9_code 22 = .ok (.aload_n 0, 1) := by decide +kernel
theorem d68_9_23 : decode jdk_68_method_9_code 23 = .ok (.iload_n 1, 1) := by decide +kernel
theorem d68_9_24 : decode jdk_68_method_9_code 24 = .ok (.invokevirtual 104, 3) := by decide +kernel
theorem pd_9 : parseMethodDescriptor "(I)I" = some ⟨[.int], some .int⟩ := by decide +kernel
theorem d68_9_27 : decode jdk_68_method_9_code 27 = .ok (.aload_n 0, 1) := by decide +kernel
theorem d68_9_28 : decode jdk_68_method_9_code 28 = .ok (.getfield 22, 3) := by decide +kernel
theorem d68_9_31 : decode jdk_68_method_9_code 31 = .ok (.ishl, 1) := by decide +kernel
theorem d68_9_32 : decode jdk_68_method_9_code 32 = .ok (.invokestatic 108, 3) := by decide +kernel
theorem pd_10 : parseMethodDescriptor "([BI)[B" = some ⟨[(.array .byte), .int], some (.array .byte)⟩ := by decide +kernel
theorem d68_9_35 : decode jdk_68_method_9_code 35 = .ok (.putfield 15, 3) := by decide +kernel
def Q_rmECg_16 (Z : State) (a1 : Addr) (p2 : Int32) (cn : Int32) (t1 : Addr) (k1 : ClassId) (L1 : List Value) (L3 : List Value) (h0 : Heap) (n0 : Nat) (v : Option Value) (h : Heap) (L : List Loc) : Prop := ∃ (r : Addr) (kr : ClassId), v = none ∧ Fr n0 L ∧ Keep h0 h [a1] ∧ n0 ≤ r ∧ h0.size ≤ r ∧ Fld Z h a1 "java/lang/AbstractStringBuilder" "value" "[B" (.ref r) ∧ Fld Z h a1 "java/lang/AbstractStringBuilder" "coder" "B" (.int 0) ∧ Fld Z h a1 "java/lang/AbstractStringBuilder" "count" "I" (.int cn) ∧ Arv Z h r kr .byte (34 : Int32) L3 (.int 0)
set_option maxRecDepth 65536 in
set_option maxHeartbeats 40000000 in
theorem rmECg_16 (l : Launch) (Z : State) (a0 : Array Value) (hw : ∀ d ∈ tables_1, d.before a0 Z = true) (ws : List Jvm.Cond) (a1 : Addr) (p2 : Int32) (cn : Int32) (t1 : Addr) (k1 : ClassId) (L1 : List Value) (L3 : List Value) (h0 : Heap) (n0 : Nat) (Z0 : n0 ≤ h0.size) (E_a1 : Exa Z h0 a1 "java/lang/StringBuilder") (F_value_a1 : Fld Z h0 a1 "java/lang/AbstractStringBuilder" "value" "[B" (.ref t1)) (F_coder_a1 : Fld Z h0 a1 "java/lang/AbstractStringBuilder" "coder" "B" (.int 0)) (F_count_a1 : Fld Z h0 a1 "java/lang/AbstractStringBuilder" "count" "I" (.int cn)) (g_a1 : n0 ≤ a1) (V_t1 : Arv Z h0 t1 k1 .byte (16 : Int32) L1 (.int 0)) (hL : own_put [oz, oz, oz, oz, oz, oz, oz, oz, oz, oz, oz, oz, oz, oz, oz, oz, oz, oz, oz, oz, oz, oz, oz, oz, oz, oz, oz, oz, oz, oz, oz, oz, oz, oz] (0 : Int32) L1 (16 : Int32) = L3) (hmx : (p2 - (16 : Int32)) < (18 : Int32)) (hgt : 0 < (p2 - (16 : Int32))) :
    MetFree l (⟨"java/lang/AbstractStringBuilder", "ensureCapacityInternal", "(I)V"⟩ : MethodName) (head1 (Jvm.Cond.code (⟨"java/lang/AbstractStringBuilder", "ensureCapacityInternal", "(I)V"⟩ : MethodName) jdk_68_method_9_code 3 none :: ws) ({ frames := 3, cells := 1, slots := 34, locals := 48 } : Room)) (fun a U => a = #[(.ref a1), (.int p2)] ∧ Z.Warmed39 U.vm ∧ U.heap = h0) (fun _ _ _ _ _ => True) (fun _ U o U' => ∃ v L, o = .returned v ∧ Q_rmECg_16 Z a1 p2 cn t1 k1 L1 L3 h0 n0 v U'.heap L ∧ FrameEnd U o U' L ({ frames := 3, cells := 1, slots := 34, locals := 48 } : Room).cells ({ frames := 3, cells := 1, slots := 34, locals := 48 } : Room).slots) := by
  refine MetFree.of_bodySF (plainFor_of_name pn_1) hisR ?_
  intro p e s m args below meth c s₁ Bd hml0 hP hK
  obtain ⟨rfl, hZ, hh⟩ := hP
  have hx := Bd.exec
  have hby := Bd.bytes
  have hml : c.maxLocals = 3 := hml0
  have hown : s.vm.findClass "java/lang/AbstractStringBuilder" = some m.cls := findClass_of_methodNamed Bd.named
  have hnm := (name_of_methodNamed Bd.named Bd.method).1
  have X0 : Stand p l e ({ frames := 3, cells := 1, slots := 34, locals := 48 } : Room) s m #[(.ref a1), (.int p2)] below meth c s₁ [] 0 0 := Stand.of_body Bd
  have e0 : s₁.heap = h0 := by rw [← hh, Bd.state]; rfl
  have N0 := Fr.nil n0
  have pre0 : ∀ t, Steps p.tables e below (s₁.setTop (mkF m 0 #[.val (.ref a1), .val (.int p2), .unset] [])) t → Steps p.tables e below (s₁.setTop (entryFrame m #[(.ref a1), (.int p2)] 3)) t := fun t k => castTop (ef_4 m a1 p2) k
  obtain ⟨T1, X1, e1, st1⟩ := getF X0 hx hZ hown (host := "") (Or.inl (own_t hw 125 rfl)) Via.refl e0 F_value_a1 (g := (mkF m 1 #[.val (.ref a1), .val (.int p2), .unset] [(.ref a1)])) rfl rfl (hb hby d68_9_1)
  obtain ⟨cl2, Ar2, q2, S2, M2, H2, G2⟩ := id V_t1
  obtain ⟨T3, X3, e3, st3⟩ := getF X1 hx hZ hown (host := "") (Or.inl (own_t hw 127 rfl)) Via.refl e1 F_coder_a1 (g := (mkF m 6 #[.val (.ref a1), .val (.int p2), .unset] [(.ref a1), (.int 16)])) rfl rfl (hb hby d68_9_6)
  obtain ⟨T4, X4, e4, st4⟩ := getF X3 hx hZ hown (host := "") (Or.inl (own_t hw 125 rfl)) Via.refl e3 F_value_a1 (g := (mkF m 19 #[.val (.ref a1), .val (.int p2), .val (.int 16)] [(.ref a1), (.ref a1)])) rfl rfl (hb hby d68_9_19)
  obtain ⟨cq5, kq5, q5a, q5b, q5c⟩ := isOf hZ e4 E_a1
  obtain ⟨_, _, ⟨T5, LL5, kk5, nn5⟩, -, X5, ⟨Lc5, hQ5, l5, y5, z5⟩, st5⟩ := own_privBack X4 hx (y := (⟨"java/lang/AbstractStringBuilder", "newCapacity", "(I)I"⟩ : MethodName)) hown (mvT hZ (own_t hw 173 rfl)) (mvT hZ (own_t hw 175 rfl)) (mvT hZ (own_t hw 176 rfl)) (mvT hZ (own_t hw 174 rfl)) (mvT hZ (own_t hw 177 rfl)) (by decide) (backOf (W := 2) (rmNC_16 l Z a0 hw [] a1 p2 t1 k1 L1 h0 n0 Z0 F_value_a1 F_coder_a1 V_t1 (hmx)) hZ (own_t hw 177 rfl) (own_t hw 121 rfl) (by decide) (by decide)) q5c (g := (mkF m 24 #[.val (.ref a1), .val (.int p2), .val (.int 16)] [(.int p2), (.ref a1), (.ref t1), (.ref a1)])) rfl (by rw [hml]; rfl) (Steps.refl _) (argsL := [(.int p2)]) (rest := [(.ref t1), (.ref a1)]) (lenOf pd_9 rfl) rfl (by show 2 * 0 + _ ≤ _; exact Nat.le_of_eq rfl) (hb hby d68_9_24) (fun _ _ => ⟨rfl, e4, (by decide : 0 + 0 ≤ _), (by decide : 0 + 0 ≤ _)⟩)
  dsimp only [Pt.U, Pt.locs, Pt.cells, Pt.slots] at X5 l5 y5 z5 st5 hQ5
  subst l5 y5 z5
  obtain ⟨rfl, N5q, e5⟩ := hQ5
  have N5 := Fr.app N0 N5q
  obtain ⟨T6, X6, e6, st6⟩ := getF X5 hx hZ hown (host := "") (Or.inl (own_t hw 127 rfl)) Via.refl e5 F_coder_a1 (g := (mkF m 28 #[.val (.ref a1), .val (.int p2), .val (.int 16)] [(.ref a1), (.int 34), (.ref t1), (.ref a1)])) rfl rfl (hb hby d68_9_28)
  obtain ⟨_, _, ⟨T7, LL7, kk7, nn7⟩, -, X7, ⟨Lc7, hQ7, l7, y7, z7⟩, st7⟩ := Jvm.LawKit.callS X6 hx (y := (⟨"java/util/Arrays", "copyOf", "([BI)[B"⟩ : MethodName)) hown (mvT hZ (own_t hw 188 rfl)) (mvT hZ (own_t hw 189 rfl)) (mvT hZ (own_t hw 190 rfl)) (mvT hZ (own_t hw 191 rfl)) (by decide) (backOf (W := 1) (rmCp_16 l Z a0 hw [] t1 k1 L1 L3 h0 n0 Z0 V_t1 (hL)) hZ (own_t hw 191 rfl) (own_t hw 190 rfl) (by decide) (by decide)) (g := (mkF m 32 #[.val (.ref a1), .val (.int p2), .val (.int 16)] [(.int 34), (.ref t1), (.ref a1)])) rfl (by rw [hml]; rfl) (argsL := [(.ref t1), (.int 34)]) (rest := [(.ref a1)]) (lenOf pd_10 rfl) rfl (by show 2 * 0 + _ ≤ _; exact Nat.le_of_eq rfl) (hb hby d68_9_32) (fun _ _ => ⟨rfl, e6, (by decide : 0 + 1 ≤ _), (by decide : 0 + 34 ≤ _)⟩)
  dsimp only [Pt.U, Pt.locs, Pt.cells, Pt.slots] at X7 l7 y7 z7 st7 hQ7
  subst l7 y7 z7
  obtain ⟨b_7, kb_7, rfl, N7q, K7, g_b_7, sq_b_7, p7_0⟩ := hQ7
  have N7 := Fr.app N5 N7q
  have sz_b_7 : h0.size ≤ b_7 := Nat.le_trans (Keep.refl h0 [a1]).1 sq_b_7
  have Q7 : Keep h0 T7.heap [a1] := (Keep.refl h0 [a1]).trans K7 all0
  obtain ⟨T8, h8, X8, e8, W8, st8⟩ := putF X7 hx hZ hown (host := "") (Or.inl (own_t hw 125 rfl)) Via.refl rfl (F_value_a1.keep K7 nin0) (E_a1.keep K7) (Or.inl (own_t hw 126 rfl)) (own_t hw 112 rfl) (ty := (.array .byte)) (by decide) rfl rfl (g := (mkF m 35 #[.val (.ref a1), .val (.int p2), .val (.int 16)] [(.ref b_7), (.ref a1)])) rfl rfl (hb hby d68_9_35)
  have Fw8 := (F_value_a1.keep K7 nin0).same W8
  have Q8 : Keep h0 h8 [a1] := Q7.wr W8 (Or.inl (List.mem_of_getElem? (i := 0) rfl))
  have N8 := Fr.snoc X8 N7 g_a1
  have nq0 : b_7 ≠ a1 := (Ne.symm (Nat.ne_of_lt (Nat.lt_of_lt_of_le E_a1.lt sq_b_7)))
  obtain ⟨fs, hr, hrun, hended, hW, hsame⟩ := X8.leave (v := none) (fun _ => rfl)
  refine ⟨_, _, pre0 _ ?_, hrun, hended, _, _, rfl, ?_, ⟨_, rfl⟩, hW, hsame.mono (by decide) (by decide)⟩
  · show Steps p.tables e below (s₁.setTop (mkF m 0 #[.val (.ref a1), .val (.int p2), .unset] [])) _
    refine XS.aloadN X0.here hx rfl (hb hby d68_9_0) rfl rfl ?_
    refine st1 _ ?_
    show Steps p.tables e below (T1.setTop (mkF m 4 #[.val (.ref a1), .val (.int p2), .unset] [(.ref t1)])) _
    refine X1.arraylength hx (by rw [e1]; exact Ar2.1) (State.isArrayOf_alike hZ.alike Ar2.2.1) (g := (mkF m 4 #[.val (.ref a1), .val (.int p2), .unset] [(.ref t1)])) rfl rfl (hb hby d68_9_4) _ ?_
    rw [len_of S2 M2]
    show Steps p.tables e below (T1.setTop (mkF m 5 #[.val (.ref a1), .val (.int p2), .unset] [(.int 16)])) _
    refine XS.aloadN X1.here hx rfl (hb hby d68_9_5) rfl rfl ?_
    refine st3 _ ?_
    show Steps p.tables e below (T3.setTop (mkF m 9 #[.val (.ref a1), .val (.int p2), .unset] [(.int 0), (.int 16)])) _
    refine XS.ishr X3.here hx rfl (hb hby d68_9_9) rfl ?_
    rw [(by decide : ((16 : Int32) >>> ((0 : Int32) &&& 31)) = (16 : Int32))]
    show Steps p.tables e below (T3.setTop (mkF m 10 #[.val (.ref a1), .val (.int p2), .unset] [(.int 16)])) _
    refine XS.istoreN X3.here hx rfl (hb hby d68_9_10) rfl (l' := #[.val (.ref a1), .val (.int p2), .val (.int 16)]) rfl ?_
    show Steps p.tables e below (T3.setTop (mkF m 11 #[.val (.ref a1), .val (.int p2), .val (.int 16)] [])) _
    refine XS.iloadN X3.here hx rfl (hb hby d68_9_11) rfl ?_
    refine XS.iloadN X3.here hx rfl (hb hby d68_9_12) rfl ?_
    refine XS.isub X3.here hx rfl (hb hby d68_9_13) rfl ?_
    show Steps p.tables e below (T3.setTop (mkF m 14 #[.val (.ref a1), .val (.int p2), .val (.int 16)] [(.int (p2 - (16 : Int32)))])) _
    refine XS.ifNo X3.here hx rfl (hb hby d68_9_14) rfl ((if0 _ _).trans (tlt hgt).2.2.2) ?_
    show Steps p.tables e below (T3.setTop (mkF m 17 #[.val (.ref a1), .val (.int p2), .val (.int 16)] [])) _
    refine XS.aloadN X3.here hx rfl (hb hby d68_9_17) rfl rfl ?_
    refine XS.aloadN X3.here hx rfl (hb hby d68_9_18) rfl rfl ?_
    refine st4 _ ?_
    show Steps p.tables e below (T4.setTop (mkF m 22 #[.val (.ref a1), .val (.int p2), .val (.int 16)] [(.ref t1), (.ref a1)])) _
    refine XS.aloadN X4.here hx rfl (hb hby d68_9_22) rfl rfl ?_
    refine XS.iloadN X4.here hx rfl (hb hby d68_9_23) rfl ?_
    refine st5.trans ?_
    show Steps p.tables e below (T5.setTop (mkF m 27 #[.val (.ref a1), .val (.int p2), .val (.int 16)] [(.int 34), (.ref t1), (.ref a1)])) _
    refine XS.aloadN X5.here hx rfl (hb hby d68_9_27) rfl rfl ?_
    refine st6 _ ?_
    show Steps p.tables e below (T6.setTop (mkF m 31 #[.val (.ref a1), .val (.int p2), .val (.int 16)] [(.int 0), (.int 34), (.ref t1), (.ref a1)])) _
    refine XS.ishl X6.here hx rfl (hb hby d68_9_31) rfl ?_
    rw [(by decide : ((34 : Int32) <<< ((0 : Int32) &&& 31)) = (34 : Int32))]
    show Steps p.tables e below (T6.setTop (mkF m 32 #[.val (.ref a1), .val (.int p2), .val (.int 16)] [(.int 34), (.ref t1), (.ref a1)])) _
    refine st7 _ ?_
    show Steps p.tables e below (T7.setTop (mkF m 35 #[.val (.ref a1), .val (.int p2), .val (.int 16)] [(.ref b_7), (.ref a1)])) _
    refine st8 _ ?_
    show Steps p.tables e below (T8.setTop (mkF m 38 #[.val (.ref a1), .val (.int p2), .val (.int 16)] [])) _
    exact X8.returnOut hx Bd.returns (hb hby d68_9_38) hr
  · show Q_rmECg_16 Z a1 p2 cn t1 k1 L1 L3 h0 n0 _ T8.heap _
    rw [e8]
    exact ⟨b_7, kb_7, rfl, N8, Q8, g_b_7, sz_b_7, Fw8, ((F_coder_a1.keep K7 nin0).other W8 (Or.inr (slot_ne (Or.inl (own_t hw 128 rfl)) (Or.inl (own_t hw 126 rfl)) (by decide) (t := .byte) (t' := (.array .byte)) (by decide) (by decide)))), ((F_count_a1.keep K7 nin0).other W8 (Or.inr (slot_ne (Or.inl (own_t hw 146 rfl)) (Or.inl (own_t hw 126 rfl)) (by decide) (t := .int) (t' := (.array .byte)) (by decide) (by decide)))), (p7_0.other W8 nq0)⟩
def Q_rmAA_16 (Z : State) (a1 : Addr) (a2 : Addr) (cn : Int32) (z : Int32) (c2 : Int32) (t1 : Addr) (k1 : ClassId) (L1 : List Value) (t2 : Addr) (k2 : ClassId) (L2 : List Value) (L3 : List Value) (L4 : List Value) (zc : Int32) (h0 : Heap) (n0 : Nat) (v : Option Value) (h : Heap) (L : List Loc) : Prop := ∃ (r : Addr) (kr : ClassId), v = some (.ref a1) ∧ Fr n0 L ∧ Keep h0 h [a1] ∧ n0 ≤ r ∧ h0.size ≤ r ∧ Fld Z h a1 "java/lang/AbstractStringBuilder" "value" "[B" (.ref r) ∧ Fld Z h a1 "java/lang/AbstractStringBuilder" "coder" "B" (.int 0) ∧ Fld Z h a1 "java/lang/AbstractStringBuilder" "count" "I" (.int c2) ∧ Arv Z h r kr .byte (34 : Int32) L4 (.int 0)
set_option maxRecDepth 65536 in
set_option maxHeartbeats 40000000 in
theorem rmAA_16 (l : Launch) (Z : State) (a0 : Array Value) (hw : ∀ d ∈ tables_1, d.before a0 Z = true) (ws : List Jvm.Cond) (a1 : Addr) (a2 : Addr) (cn : Int32) (z : Int32) (c2 : Int32) (t1 : Addr) (k1 : ClassId) (L1 : List Value) (t2 : Addr) (k2 : ClassId) (L2 : List Value) (L3 : List Value) (L4 : List Value) (zc : Int32) (h0 : Heap) (n0 : Nat) (Z0 : n0 ≤ h0.size) (E_a1 : Exa Z h0 a1 "java/lang/StringBuilder") (F_value_a1 : Fld Z h0 a1 "java/lang/AbstractStringBuilder" "value" "[B" (.ref t1)) (F_coder_a1 : Fld Z h0 a1 "java/lang/AbstractStringBuilder" "coder" "B" (.int 0)) (F_count_a1 : Fld Z h0 a1 "java/lang/AbstractStringBuilder" "count" "I" (.int cn)) (g_a1 : n0 ≤ a1) (V_t1 : Arv Z h0 t1 k1 .byte (16 : Int32) L1 (.int 0)) (E_a2 : Exa Z h0 a2 "java/lang/String") (F_value_a2 : Fld Z h0 a2 "java/lang/String" "value" "[B" (.ref t2)) (F_coder_a2 : Fld Z h0 a2 "java/lang/String" "coder" "B" (.int 0)) (V_t2 : Arv Z h0 t2 k2 .byte z L2 (.int 0)) (S_COMPACT_STRINGS_ : Sta Z h0 "java/lang/String" "COMPACT_STRINGS" "Z" (.int zc)) (hzc : ¬ zc = 0) (hL : own_put [oz, oz, oz, oz, oz, oz, oz, oz, oz, oz, oz, oz, oz, oz, oz, oz, oz, oz, oz, oz, oz, oz, oz, oz, oz, oz, oz, oz, oz, oz, oz, oz, oz, oz] (0 : Int32) L1 (16 : Int32) = L3) (hmx : (c2 - (16 : Int32)) < (18 : Int32)) (hgt : 0 < (c2 - (16 : Int32))) (hc2 : cn + z = c2) (hpos : ¬ cn < 0) (hz : ¬ z < 0) (h5 : (cn).toNatClampNeg + (z).toNatClampNeg ≤ ((34 : Int32)).toNatClampNeg) (hl3 : (cn).toNatClampNeg + (z).toNatClampNeg ≤ (L3).length) (hL4 : own_put L3 cn L2 z = L4) :
    MetFree l (⟨"java/lang/AbstractStringBuilder", "append", "(Ljava/lang/String;)Ljava/lang/AbstractStringBuilder;"⟩ : MethodName) (head1 (Jvm.Cond.code (⟨"java/lang/AbstractStringBuilder", "append", "(Ljava/lang/String;)Ljava/lang/AbstractStringBuilder;"⟩ : MethodName) jdk_68_method_22_code 3 (some (.object "java/lang/AbstractStringBuilder")) :: ws) ({ frames := 4, cells := 1, slots := 34, locals := 62 } : Room)) (fun a U => a = #[(.ref a1), (.ref a2)] ∧ Z.Warmed39 U.vm ∧ U.heap = h0) (fun _ _ _ _ _ => True) (fun _ U o U' => ∃ v L, o = .returned v ∧ Q_rmAA_16 Z a1 a2 cn z c2 t1 k1 L1 t2 k2 L2 L3 L4 zc h0 n0 v U'.heap L ∧ FrameEnd U o U' L ({ frames := 4, cells := 1, slots := 34, locals := 62 } : Room).cells ({ frames := 4, cells := 1, slots := 34, locals := 62 } : Room).slots) := by
  refine MetFree.of_bodySF (plainFor_of_name pn_1) hisR ?_
  intro p e s m args below meth c s₁ Bd hml0 hP hK
  obtain ⟨rfl, hZ, hh⟩ := hP
  have hx := Bd.exec
  have hby := Bd.bytes
  have hml : c.maxLocals = 3 := hml0
  have hown : s.vm.findClass "java/lang/AbstractStringBuilder" = some m.cls := findClass_of_methodNamed Bd.named
  have hnm := (name_of_methodNamed Bd.named Bd.method).1
  have X0 : Stand p l e ({ frames := 4, cells := 1, slots := 34, locals := 62 } : Room) s m #[(.ref a1), (.ref a2)] below meth c s₁ [] 0 0 := Stand.of_body Bd
  have e0 : s₁.heap = h0 := by rw [← hh, Bd.state]; rfl
  have N0 := Fr.nil n0
  have pre0 : ∀ t, Steps p.tables e below (s₁.setTop (mkF m 0 #[.val (.ref a1), .val (.ref a2), .unset] [])) t → Steps p.tables e below (s₁.setTop (entryFrame m #[(.ref a1), (.ref a2)] 3)) t := fun t k => castTop (ef_5 m a1 a2) k
  obtain ⟨cq1, kq1, q1a, q1b, q1c⟩ := isOf hZ e0 E_a2
  obtain ⟨_, _, ⟨T1, LL1, kk1, nn1⟩, -, X1, ⟨Lc1, hQ1, l1, y1, z1⟩, st1⟩ := X0.virtualBack hx (y := (⟨"java/lang/String", "length", "()I"⟩ : MethodName)) (z := (⟨"java/lang/String", "length", "()I"⟩ : MethodName)) hown (mvT hZ (own_t hw 140 rfl)) (mvT hZ (own_t hw 141 rfl)) (notFace_of_selects (args := #[]) (mvT hZ (own_t hw 143 rfl))) (mvT hZ (own_t hw 143 rfl)) (mvT hZ (own_t hw 142 rfl)) (by decide) (backOf (W := 0) (rmLn l Z a0 hw [] a2 t2 k2 z L2 zc h0 n0 Z0 E_a2 F_value_a2 F_coder_a2 V_t2 S_COMPACT_STRINGS_ (hzc)) hZ (own_t hw 144 rfl) (own_t hw 3 rfl) (by decide) (by decide)) q1a q1c (g := (mkF m 10 #[.val (.ref a1), .val (.ref a2), .unset] [(.ref a2)])) rfl (by rw [hml]; rfl) (Steps.refl _) (argsL := []) (rest := []) (lenOf pd_3 rfl) rfl (by show 2 * 0 + _ ≤ _; exact Nat.le_of_eq rfl) (hb hby d68_22_10) (fun _ _ => ⟨rfl, e0, (by decide : 0 + 0 ≤ _), (by decide : 0 + 0 ≤ _)⟩)
  dsimp only [Pt.U, Pt.locs, Pt.cells, Pt.slots] at X1 l1 y1 z1 st1 hQ1
  subst l1 y1 z1
  obtain ⟨rfl, N1q, e1⟩ := hQ1
  have N1 := Fr.app N0 N1q
  obtain ⟨T2, X2, e2, st2⟩ := getF X1 hx hZ hown (host := "") (Or.inl (own_t hw 145 rfl)) Via.refl e1 F_count_a1 (g := (mkF m 16 #[.val (.ref a1), .val (.ref a2), .val (.int z)] [(.ref a1), (.ref a1)])) rfl rfl (hb hby d68_22_16)
  obtain ⟨cq3, kq3, q3a, q3b, q3c⟩ := isOf hZ e2 E_a1
  obtain ⟨_, _, ⟨T3, LL3, kk3, nn3⟩, -, X3, ⟨Lc3, hQ3, l3, y3, z3⟩, st3⟩ := own_privBack X2 hx (y := (⟨"java/lang/AbstractStringBuilder", "ensureCapacityInternal", "(I)V"⟩ : MethodName)) hown (mvT hZ (own_t hw 147 rfl)) (mvT hZ (own_t hw 149 rfl)) (mvT hZ (own_t hw 150 rfl)) (mvT hZ (own_t hw 148 rfl)) (mvT hZ (own_t hw 151 rfl)) (by decide) (backOf (W := 0) (rmECg_16 l Z a0 hw [] a1 c2 cn t1 k1 L1 L3 h0 n0 Z0 E_a1 F_value_a1 F_coder_a1 F_count_a1 g_a1 V_t1 (hL) (hmx) (hgt)) hZ (own_t hw 151 rfl) (own_t hw 121 rfl) (by decide) (by decide)) q3c (g := (mkF m 21 #[.val (.ref a1), .val (.ref a2), .val (.int z)] [(.int c2), (.ref a1)])) rfl (by rw [hml]; rfl) (Steps.refl _) (argsL := [(.int c2)]) (rest := []) (lenOf pd_4 rfl) rfl (by show 2 * 0 + _ ≤ _; exact Nat.le_of_eq rfl) (hb hby d68_22_21) (fun _ _ => ⟨rfl, e2, (by decide : 0 + 1 ≤ _), (by decide : 0 + 34 ≤ _)⟩)
  dsimp only [Pt.U, Pt.locs, Pt.cells, Pt.slots] at X3 l3 y3 z3 st3 hQ3
  subst l3 y3 z3
  obtain ⟨r_3, kr_3, rfl, N3q, K3, g_r_3, sq_r_3, p3_0, p3_1, p3_2, p3_3⟩ := hQ3
  have N3 := Fr.app N1 N3q
  have sz_r_3 : h0.size ≤ r_3 := Nat.le_trans (Keep.refl h0 [a1]).1 sq_r_3
  have Q3 : Keep h0 T3.heap [a1] := (Keep.refl h0 [a1]).trans K3 (allS (Or.inl (List.mem_of_getElem? (i := 0) rfl)) all0)
  obtain ⟨T4, X4, e4, st4⟩ := getF X3 hx hZ hown (host := "") (Or.inl (own_t hw 145 rfl)) Via.refl rfl p3_2 (g := (mkF m 26 #[.val (.ref a1), .val (.ref a2), .val (.int z)] [(.ref a1), (.ref a1)])) rfl rfl (hb hby d68_22_26)
  have nq0 : a2 ≠ a1 := (own_exex E_a2 E_a1 (by decide))
  have nq1 : t2 ≠ a1 := (Ne.symm (own_exarv (own_t hw 112 rfl) E_a1 V_t2))
  obtain ⟨cq5, kq5, q5a, q5b, q5c⟩ := isOf hZ e4 (E_a1.keep K3)
  obtain ⟨_, _, ⟨T5, LL5, kk5, nn5⟩, -, X5, ⟨Lc5, hQ5, l5, y5, z5⟩, st5⟩ := own_privBack X4 hx (y := (⟨"java/lang/AbstractStringBuilder", "putStringAt", "(ILjava/lang/String;)V"⟩ : MethodName)) hown (mvT hZ (own_t hw 152 rfl)) (mvT hZ (own_t hw 154 rfl)) (mvT hZ (own_t hw 155 rfl)) (mvT hZ (own_t hw 153 rfl)) (mvT hZ (own_t hw 156 rfl)) (by decide) (backOf (W := 0) (rmPS l Z a0 hw [] a1 cn a2 r_3 t2 k2 z L2 kr_3 (34 : Int32) L3 L4 zc T3.heap n0 (Nat.le_trans Z0 K3.1) (E_a1.keep K3) p3_0 p3_1 (E_a2.keep K3) (F_value_a2.keep K3 (ninS nq0 nin0)) (F_coder_a2.keep K3 (ninS nq0 nin0)) (V_t2.keep K3 (ninS nq1 nin0)) p3_3 g_r_3 (own_sta_keep1 S_COMPACT_STRINGS_ K3 E_a1) (hzc) (hpos) (hz) (h5) (hl3) (hL4)) hZ (own_t hw 156 rfl) (own_t hw 121 rfl) (by decide) (by decide)) q5c (g := (mkF m 30 #[.val (.ref a1), .val (.ref a2), .val (.int z)] [(.ref a2), (.int cn), (.ref a1)])) rfl (by rw [hml]; rfl) (Steps.refl _) (argsL := [(.int cn), (.ref a2)]) (rest := []) (lenOf pd_5 rfl) rfl (by show 2 * 0 + _ ≤ _; exact Nat.le_of_eq rfl) (hb hby d68_22_30) (fun _ _ => ⟨rfl, e4, (by decide : 1 + 0 ≤ _), (by decide : 34 + 0 ≤ _)⟩)
  dsimp only [Pt.U, Pt.locs, Pt.cells, Pt.slots] at X5 l5 y5 z5 st5 hQ5
  subst l5 y5 z5
  obtain ⟨rfl, N5q, K5, p5_0⟩ := hQ5
  have N5 := Fr.app N3 N5q
  have Q5 : Keep h0 T5.heap [a1] := Q3.trans K5 (allS (Or.inr sz_r_3) all0)
  have nq2 : a1 ≠ r_3 := (Nat.ne_of_lt (Nat.lt_of_lt_of_le E_a1.lt sq_r_3))
  obtain ⟨T6, X6, e6, st6⟩ := getF X5 hx hZ hown (host := "") (Or.inl (own_t hw 145 rfl)) Via.refl rfl (p3_2.keep K5 (ninS nq2 nin0)) (g := (mkF m 35 #[.val (.ref a1), .val (.ref a2), .val (.int z)] [(.ref a1), (.ref a1)])) rfl rfl (hb hby d68_22_35)
  obtain ⟨T7, h7, X7, e7, W7, st7⟩ := putF X6 hx hZ hown (host := "") (Or.inl (own_t hw 145 rfl)) Via.refl e6 (p3_2.keep K5 (ninS nq2 nin0)) ((E_a1.keep K3).keep K5) (Or.inl (own_t hw 146 rfl)) (own_t hw 112 rfl) (ty := .int) (by decide) rfl rfl (g := (mkF m 40 #[.val (.ref a1), .val (.ref a2), .val (.int z)] [(.int c2), (.ref a1)])) rfl rfl (hb hby d68_22_40)
  have Fw7 := (p3_2.keep K5 (ninS nq2 nin0)).same W7
  have Q7 : Keep h0 h7 [a1] := Q5.wr W7 (Or.inl (List.mem_of_getElem? (i := 0) rfl))
  have N7 := Fr.snoc X7 N5 g_a1
  obtain ⟨fs, hr, hrun, hended, hW, hsame⟩ := X7.leave (v := some (.ref a1)) (fun h => by rw [Bd.returns] at h; cases h)
  refine ⟨_, _, pre0 _ ?_, hrun, hended, _, _, rfl, ?_, ⟨_, rfl⟩, hW, hsame.mono (by decide) (by decide)⟩
  · show Steps p.tables e below (s₁.setTop (mkF m 0 #[.val (.ref a1), .val (.ref a2), .unset] [])) _
    refine XS.aloadN X0.here hx rfl (hb hby d68_22_0) rfl rfl ?_
    refine XS.ifnonnullYes X0.here hx rfl (pc0 := 1) (pc' := 9) rfl (hb hby d68_22_1) rfl (by decide) (by decide) ?_
    show Steps p.tables e below (s₁.setTop (mkF m 9 #[.val (.ref a1), .val (.ref a2), .unset] [])) _
    refine XS.aloadN X0.here hx rfl (hb hby d68_22_9) rfl rfl ?_
    refine st1.trans ?_
    show Steps p.tables e below (T1.setTop (mkF m 13 #[.val (.ref a1), .val (.ref a2), .unset] [(.int z)])) _
    refine XS.istoreN X1.here hx rfl (hb hby d68_22_13) rfl (l' := #[.val (.ref a1), .val (.ref a2), .val (.int z)]) rfl ?_
    show Steps p.tables e below (T1.setTop (mkF m 14 #[.val (.ref a1), .val (.ref a2), .val (.int z)] [])) _
    refine XS.aloadN X1.here hx rfl (hb hby d68_22_14) rfl rfl ?_
    refine XS.aloadN X1.here hx rfl (hb hby d68_22_15) rfl rfl ?_
    refine st2 _ ?_
    show Steps p.tables e below (T2.setTop (mkF m 19 #[.val (.ref a1), .val (.ref a2), .val (.int z)] [(.int cn), (.ref a1)])) _
    refine XS.iloadN X2.here hx rfl (hb hby d68_22_19) rfl ?_
    refine XS.iadd X2.here hx rfl (hb hby d68_22_20) rfl ?_
    rw [hc2]
    show Steps p.tables e below (T2.setTop (mkF m 21 #[.val (.ref a1), .val (.ref a2), .val (.int z)] [(.int c2), (.ref a1)])) _
    refine st3.trans ?_
    show Steps p.tables e below (T3.setTop (mkF m 24 #[.val (.ref a1), .val (.ref a2), .val (.int z)] [])) _
    refine XS.aloadN X3.here hx rfl (hb hby d68_22_24) rfl rfl ?_
    refine XS.aloadN X3.here hx rfl (hb hby d68_22_25) rfl rfl ?_
    refine st4 _ ?_
    show Steps p.tables e below (T4.setTop (mkF m 29 #[.val (.ref a1), .val (.ref a2), .val (.int z)] [(.int cn), (.ref a1)])) _
    refine XS.aloadN X4.here hx rfl (hb hby d68_22_29) rfl rfl ?_
    refine st5.trans ?_
    show Steps p.tables e below (T5.setTop (mkF m 33 #[.val (.ref a1), .val (.ref a2), .val (.int z)] [])) _
    refine XS.aloadN X5.here hx rfl (hb hby d68_22_33) rfl rfl ?_
    refine XS.dup X5.here hx rfl (hb hby d68_22_34) rfl rfl ?_
    refine st6 _ ?_
    show Steps p.tables e below (T6.setTop (mkF m 38 #[.val (.ref a1), .val (.ref a2), .val (.int z)] [(.int cn), (.ref a1)])) _
    refine XS.iloadN X6.here hx rfl (hb hby d68_22_38) rfl ?_
    refine XS.iadd X6.here hx rfl (hb hby d68_22_39) rfl ?_
    rw [hc2]
    show Steps p.tables e below (T6.setTop (mkF m 40 #[.val (.ref a1), .val (.ref a2), .val (.int z)] [(.int c2), (.ref a1)])) _
    refine st7 _ ?_
    show Steps p.tables e below (T7.setTop (mkF m 43 #[.val (.ref a1), .val (.ref a2), .val (.int z)] [])) _
    refine XS.aloadN X7.here hx rfl (hb hby d68_22_43) rfl rfl ?_
    exact X7.areturnOut hx rfl Bd.returns rfl (hb hby d68_22_44) hr
  · show Q_rmAA_16 Z a1 a2 cn z c2 t1 k1 L1 t2 k2 L2 L3 L4 zc h0 n0 _ T7.heap _
    rw [e7]
    exact ⟨r_3, kr_3, rfl, N7, Q7, g_r_3, sz_r_3, ((p3_0.keep K5 (ninS nq2 nin0)).other W7 (Or.inr (slot_ne (Or.inl (own_t hw 126 rfl)) (Or.inl (own_t hw 146 rfl)) (by decide) (t := (.array .byte)) (t' := .int) (by decide) (by decide)))), ((p3_1.keep K5 (ninS nq2 nin0)).other W7 (Or.inr (slot_ne (Or.inl (own_t hw 128 rfl)) (Or.inl (own_t hw 146 rfl)) (by decide) (t := .byte) (t' := .int) (by decide) (by decide)))), Fw7, (p5_0.other W7 nq2.symm)⟩
def Q_rmSA_16 (Z : State) (a1 : Addr) (a2 : Addr) (cn : Int32) (z : Int32) (c2 : Int32) (t1 : Addr) (k1 : ClassId) (L1 : List Value) (t2 : Addr) (k2 : ClassId) (L2 : List Value) (L3 : List Value) (L4 : List Value) (zc : Int32) (h0 : Heap) (n0 : Nat) (v : Option Value) (h : Heap) (L : List Loc) : Prop := ∃ (r : Addr) (kr : ClassId), v = some (.ref a1) ∧ Fr n0 L ∧ Keep h0 h [a1] ∧ n0 ≤ r ∧ h0.size ≤ r ∧ Fld Z h a1 "java/lang/AbstractStringBuilder" "value" "[B" (.ref r) ∧ Fld Z h a1 "java/lang/AbstractStringBuilder" "coder" "B" (.int 0) ∧ Fld Z h a1 "java/lang/AbstractStringBuilder" "count" "I" (.int c2) ∧ Arv Z h r kr .byte (34 : Int32) L4 (.int 0)
set_option maxRecDepth 65536 in
set_option maxHeartbeats 40000000 in
theorem rmSA_16 (l : Launch) (Z : State) (a0 : Array Value) (hw : ∀ d ∈ tables_1, d.before a0 Z = true) (ws : List Jvm.Cond) (a1 : Addr) (a2 : Addr) (cn : Int32) (z : Int32) (c2 : Int32) (t1 : Addr) (k1 : ClassId) (L1 : List Value) (t2 : Addr) (k2 : ClassId) (L2 : List Value) (L3 : List Value) (L4 : List Value) (zc : Int32) (h0 : Heap) (n0 : Nat) (Z0 : n0 ≤ h0.size) (E_a1 : Exa Z h0 a1 "java/lang/StringBuilder") (F_value_a1 : Fld Z h0 a1 "java/lang/AbstractStringBuilder" "value" "[B" (.ref t1)) (F_coder_a1 : Fld Z h0 a1 "java/lang/AbstractStringBuilder" "coder" "B" (.int 0)) (F_count_a1 : Fld Z h0 a1 "java/lang/AbstractStringBuilder" "count" "I" (.int cn)) (g_a1 : n0 ≤ a1) (V_t1 : Arv Z h0 t1 k1 .byte (16 : Int32) L1 (.int 0)) (E_a2 : Exa Z h0 a2 "java/lang/String") (F_value_a2 : Fld Z h0 a2 "java/lang/String" "value" "[B" (.ref t2)) (F_coder_a2 : Fld Z h0 a2 "java/lang/String" "coder" "B" (.int 0)) (V_t2 : Arv Z h0 t2 k2 .byte z L2 (.int 0)) (S_COMPACT_STRINGS_ : Sta Z h0 "java/lang/String" "COMPACT_STRINGS" "Z" (.int zc)) (hzc : ¬ zc = 0) (hL : own_put [oz, oz, oz, oz, oz, oz, oz, oz, oz, oz, oz, oz, oz, oz, oz, oz, oz, oz, oz, oz, oz, oz, oz, oz, oz, oz, oz, oz, oz, oz, oz, oz, oz, oz] (0 : Int32) L1 (16 : Int32) = L3) (hmx : (c2 - (16 : Int32)) < (18 : Int32)) (hgt : 0 < (c2 - (16 : Int32))) (hc2 : cn + z = c2) (hpos : ¬ cn < 0) (hz : ¬ z < 0) (h5 : (cn).toNatClampNeg + (z).toNatClampNeg ≤ ((34 : Int32)).toNatClampNeg) (hl3 : (cn).toNatClampNeg + (z).toNatClampNeg ≤ (L3).length) (hL4 : own_put L3 cn L2 z = L4) :
    MetFree l (⟨"java/lang/StringBuilder", "append", "(Ljava/lang/String;)Ljava/lang/StringBuilder;"⟩ : MethodName) (head1 (Jvm.Cond.code (⟨"java/lang/StringBuilder", "append", "(Ljava/lang/String;)Ljava/lang/StringBuilder;"⟩ : MethodName) jdk_67_method_7_code 2 (some (.object "java/lang/StringBuilder")) :: ws) ({ frames := 5, cells := 1, slots := 34, locals := 76 } : Room)) (fun a U => a = #[(.ref a1), (.ref a2)] ∧ Z.Warmed39 U.vm ∧ U.heap = h0) (fun _ _ _ _ _ => True) (fun _ U o U' => ∃ v L, o = .returned v ∧ Q_rmSA_16 Z a1 a2 cn z c2 t1 k1 L1 t2 k2 L2 L3 L4 zc h0 n0 v U'.heap L ∧ FrameEnd U o U' L ({ frames := 5, cells := 1, slots := 34, locals := 76 } : Room).cells ({ frames := 5, cells := 1, slots := 34, locals := 76 } : Room).slots) := by
  refine MetFree.of_bodySF (plainFor_of_name pn_2) hisR ?_
  intro p e s m args below meth c s₁ Bd hml0 hP hK
  obtain ⟨rfl, hZ, hh⟩ := hP
  have hx := Bd.exec
  have hby := Bd.bytes
  have hml : c.maxLocals = 2 := hml0
  have hown : s.vm.findClass "java/lang/StringBuilder" = some m.cls := findClass_of_methodNamed Bd.named
  have hnm := (name_of_methodNamed Bd.named Bd.method).1
  have X0 : Stand p l e ({ frames := 5, cells := 1, slots := 34, locals := 76 } : Room) s m #[(.ref a1), (.ref a2)] below meth c s₁ [] 0 0 := Stand.of_body Bd
  have e0 : s₁.heap = h0 := by rw [← hh, Bd.state]; rfl
  have N0 := Fr.nil n0
  have pre0 : ∀ t, Steps p.tables e below (s₁.setTop (mkF m 0 #[.val (.ref a1), .val (.ref a2)] [])) t → Steps p.tables e below (s₁.setTop (entryFrame m #[(.ref a1), (.ref a2)] 2)) t := fun t k => castTop (ef_2 m a1 a2) k
  obtain ⟨_, _, ⟨T1, LL1, kk1, nn1⟩, -, X1, ⟨Lc1, hQ1, l1, y1, z1⟩, st1⟩ := superBack X0 hx hZ (y := (⟨"java/lang/AbstractStringBuilder", "append", "(Ljava/lang/String;)Ljava/lang/AbstractStringBuilder;"⟩ : MethodName)) hown (own_t hw 135 rfl) (own_same (own_t hw 136 rfl) (own_t hw 150 rfl) rfl (by decide)) (own_t hw 136 rfl) (own_t hw 137 rfl) (by decide) (backOf (W := 0) (rmAA_16 l Z a0 hw [] a1 a2 cn z c2 t1 k1 L1 t2 k2 L2 L3 L4 zc h0 n0 Z0 E_a1 F_value_a1 F_coder_a1 F_count_a1 g_a1 V_t1 E_a2 F_value_a2 F_coder_a2 V_t2 S_COMPACT_STRINGS_ (hzc) (hL) (hmx) (hgt) (hc2) (hpos) (hz) (h5) (hl3) (hL4)) hZ (own_t hw 139 rfl) (own_t hw 121 rfl) (by decide) (by decide)) e0 (Ins.self E_a1) (g := (mkF m 2 #[.val (.ref a1), .val (.ref a2)] [(.ref a2), (.ref a1)])) rfl (by rw [hml]; rfl) (own_t hw 139 rfl) (argsL := [(.ref a2)]) (rest := []) (lenOf pd_6 rfl) rfl (by show 2 * 0 + _ ≤ _; exact Nat.le_of_eq rfl) (hb hby d67_7_2) (fun _ _ => ⟨rfl, e0, (by decide : 0 + 1 ≤ _), (by decide : 0 + 34 ≤ _)⟩)
  dsimp only [Pt.U, Pt.locs, Pt.cells, Pt.slots] at X1 l1 y1 z1 st1 hQ1
  subst l1 y1 z1
  obtain ⟨r_1, kr_1, rfl, N1q, K1, g_r_1, sq_r_1, p1_0, p1_1, p1_2, p1_3⟩ := hQ1
  have N1 := Fr.app N0 N1q
  have sz_r_1 : h0.size ≤ r_1 := Nat.le_trans (Keep.refl h0 [a1]).1 sq_r_1
  have Q1 : Keep h0 T1.heap [a1] := (Keep.refl h0 [a1]).trans K1 (allS (Or.inl (List.mem_of_getElem? (i := 0) rfl)) all0)
  obtain ⟨fs, hr, hrun, hended, hW, hsame⟩ := X1.leave (v := some (.ref a1)) (fun h => by rw [Bd.returns] at h; cases h)
  refine ⟨_, _, pre0 _ ?_, hrun, hended, _, _, rfl, ?_, ⟨_, rfl⟩, hW, hsame.mono (by decide) (by decide)⟩
  · show Steps p.tables e below (s₁.setTop (mkF m 0 #[.val (.ref a1), .val (.ref a2)] [])) _
    refine XS.aloadN X0.here hx rfl (hb hby d67_7_0) rfl rfl ?_
    refine XS.aloadN X0.here hx rfl (hb hby d67_7_1) rfl rfl ?_
    refine st1.trans ?_
    show Steps p.tables e below (T1.setTop (mkF m 5 #[.val (.ref a1), .val (.ref a2)] [(.ref a1)])) _
    refine XS.pop X1.here hx rfl (hb hby d67_7_5) rfl rfl ?_
    refine XS.aloadN X1.here hx rfl (hb hby d67_7_6) rfl rfl ?_
    exact X1.areturnOut hx rfl Bd.returns rfl (hb hby d67_7_7) hr
  · show Q_rmSA_16 Z a1 a2 cn z c2 t1 k1 L1 t2 k2 L2 L3 L4 zc h0 n0 _ T1.heap _
    exact ⟨r_1, kr_1, rfl, N1, Q1, g_r_1, sz_r_1, p1_0, p1_1, p1_2, p1_3⟩
def Q_rmNC_34 (Z : State) (a1 : Addr) (p2 : Int32) (t1 : Addr) (k1 : ClassId) (L1 : List Value) (h0 : Heap) (n0 : Nat) (v : Option Value) (h : Heap) (L : List Loc) : Prop := v = some (.int 70) ∧ Fr n0 L ∧ h = h0
set_option maxRecDepth 65536 in
set_option maxHeartbeats 40000000 in
theorem rmNC_34 (l : Launch) (Z : State) (a0 : Array Value) (hw : ∀ d ∈ tables_1, d.before a0 Z = true) (ws : List Jvm.Cond) (a1 : Addr) (p2 : Int32) (t1 : Addr) (k1 : ClassId) (L1 : List Value) (h0 : Heap) (n0 : Nat) (Z0 : n0 ≤ h0.size) (F_value_a1 : Fld Z h0 a1 "java/lang/AbstractStringBuilder" "value" "[B" (.ref t1)) (F_coder_a1 : Fld Z h0 a1 "java/lang/AbstractStringBuilder" "coder" "B" (.int 0)) (V_t1 : Arv Z h0 t1 k1 .byte (34 : Int32) L1 (.int 0)) (hmx : (p2 - (34 : Int32)) < (36 : Int32)) :
    MetFree l (⟨"java/lang/AbstractStringBuilder", "newCapacity", "(I)I"⟩ : MethodName) (head1 (Jvm.Cond.code (⟨"java/lang/AbstractStringBuilder", "newCapacity", "(I)I"⟩ : MethodName) jdk_68_method_10_code 6 (some .int) :: ws) ({ frames := 2, cells := 0, slots := 0, locals := 29 } : Room)) (fun a U => a = #[(.ref a1), (.int p2)] ∧ Z.Warmed39 U.vm ∧ U.heap = h0) (fun _ _ _ _ _ => True) (fun _ U o U' => ∃ v L, o = .returned v ∧ Q_rmNC_34 Z a1 p2 t1 k1 L1 h0 n0 v U'.heap L ∧ FrameEnd U o U' L ({ frames := 2, cells := 0, slots := 0, locals := 29 } : Room).cells ({ frames := 2, cells := 0, slots := 0, locals := 29 } : Room).slots) := by
  refine MetFree.of_bodySF (plainFor_of_name pn_1) hisR ?_
  intro p e s m args below meth c s₁ Bd hml0 hP hK
  obtain ⟨rfl, hZ, hh⟩ := hP
  have hx := Bd.exec
  have hby := Bd.bytes
  have hml : c.maxLocals = 6 := hml0
  have hown : s.vm.findClass "java/lang/AbstractStringBuilder" = some m.cls := findClass_of_methodNamed Bd.named
  have hnm := (name_of_methodNamed Bd.named Bd.method).1
  have X0 : Stand p l e ({ frames := 2, cells := 0, slots := 0, locals := 29 } : Room) s m #[(.ref a1), (.int p2)] below meth c s₁ [] 0 0 := Stand.of_body Bd
  have e0 : s₁.heap = h0 := by rw [← hh, Bd.state]; rfl
  have N0 := Fr.nil n0
  have pre0 : ∀ t, Steps p.tables e below (s₁.setTop (mkF m 0 #[.val (.ref a1), .val (.int p2), .unset, .unset, .unset, .unset] [])) t → Steps p.tables e below (s₁.setTop (entryFrame m #[(.ref a1), (.int p2)] 6)) t := fun t k => castTop (ef_8 m a1 p2) k
  obtain ⟨T1, X1, e1, st1⟩ := getF X0 hx hZ hown (host := "") (Or.inl (own_t hw 125 rfl)) Via.refl e0 F_value_a1 (g := (mkF m 1 #[.val (.ref a1), .val (.int p2), .unset, .unset, .unset, .unset] [(.ref a1)])) rfl rfl (hb hby d68_10_1)
  obtain ⟨cl2, Ar2, q2, S2, M2, H2, G2⟩ := id V_t1
  obtain ⟨T3, X3, e3, st3⟩ := getF X1 hx hZ hown (host := "") (Or.inl (own_t hw 127 rfl)) Via.refl e1 F_coder_a1 (g := (mkF m 8 #[.val (.ref a1), .val (.int p2), .val (.int 34), .unset, .unset, .unset] [(.ref a1), (.int p2)])) rfl rfl (hb hby d68_10_8)
  obtain ⟨T4, X4, e4, st4⟩ := getF X3 hx hZ hown (host := "") (Or.inl (own_t hw 127 rfl)) Via.refl e3 F_coder_a1 (g := (mkF m 24 #[.val (.ref a1), .val (.int p2), .val (.int 34), .val (.int p2), .val (.int (p2 - (34 : Int32))), .unset] [(.ref a1), (.int 2), (.int 34), (.int (p2 - (34 : Int32))), (.int 34)])) rfl rfl (hb hby d68_10_24)
  obtain ⟨_, _, ⟨T5, LL5, kk5, nn5⟩, -, X5, ⟨Lc5, hQ5, l5, y5, z5⟩, st5⟩ := Jvm.LawKit.callS X4 hx (y := (⟨"jdk/internal/util/ArraysSupport", "newLength", "(III)I"⟩ : MethodName)) hown (mvT hZ (own_t hw 178 rfl)) (mvT hZ (own_t hw 179 rfl)) (mvT hZ (own_t hw 180 rfl)) (mvT hZ (own_t hw 181 rfl)) (by decide) (backOf (W := 0) (rmNL_34 l Z a0 hw [] (p2 - (34 : Int32)) h0 n0 Z0 (hmx)) hZ (own_t hw 181 rfl) (own_t hw 180 rfl) (by decide) (by decide)) (g := (mkF m 29 #[.val (.ref a1), .val (.int p2), .val (.int 34), .val (.int p2), .val (.int (p2 - (34 : Int32))), .unset] [(.int 36), (.int (p2 - (34 : Int32))), (.int 34)])) rfl (by rw [hml]; rfl) (argsL := [(.int 34), (.int (p2 - (34 : Int32))), (.int 36)]) (rest := []) (lenOf pd_8 rfl) rfl (by show 2 * 0 + _ ≤ _; exact Nat.le_of_eq rfl) (hb hby d68_10_29) (fun _ _ => ⟨rfl, e4, (by decide : 0 + 0 ≤ _), (by decide : 0 + 0 ≤ _)⟩)
  dsimp only [Pt.U, Pt.locs, Pt.cells, Pt.slots] at X5 l5 y5 z5 st5 hQ5
  subst l5 y5 z5
  obtain ⟨rfl, N5q, e5⟩ := hQ5
  have N5 := Fr.app N0 N5q
  obtain ⟨T6, X6, e6, st6⟩ := getF X5 hx hZ hown (host := "") (Or.inl (own_t hw 127 rfl)) Via.refl e5 F_coder_a1 (g := (mkF m 54 #[.val (.ref a1), .val (.int p2), .val (.int 34), .val (.int p2), .val (.int (p2 - (34 : Int32))), .val (.int 70)] [(.ref a1), (.int 70)])) rfl rfl (hb hby d68_10_54)
  obtain ⟨fs, hr, hrun, hended, hW, hsame⟩ := X6.leave (v := some (.int 70)) (fun h => by rw [Bd.returns] at h; cases h)
  refine ⟨_, _, pre0 _ ?_, hrun, hended, _, _, rfl, ?_, ⟨_, rfl⟩, hW, hsame.mono (by decide) (by decide)⟩
  · show Steps p.tables e below (s₁.setTop (mkF m 0 #[.val (.ref a1), .val (.int p2), .unset, .unset, .unset, .unset] [])) _
    refine XS.aloadN X0.here hx rfl (hb hby d68_10_0) rfl rfl ?_
    refine st1 _ ?_
    show Steps p.tables e below (T1.setTop (mkF m 4 #[.val (.ref a1), .val (.int p2), .unset, .unset, .unset, .unset] [(.ref t1)])) _
    refine X1.arraylength hx (by rw [e1]; exact Ar2.1) (State.isArrayOf_alike hZ.alike Ar2.2.1) (g := (mkF m 4 #[.val (.ref a1), .val (.int p2), .unset, .unset, .unset, .unset] [(.ref t1)])) rfl rfl (hb hby d68_10_4) _ ?_
    rw [len_of S2 M2]
    show Steps p.tables e below (T1.setTop (mkF m 5 #[.val (.ref a1), .val (.int p2), .unset, .unset, .unset, .unset] [(.int 34)])) _
    refine XS.istoreN X1.here hx rfl (hb hby d68_10_5) rfl (l' := #[.val (.ref a1), .val (.int p2), .val (.int 34), .unset, .unset, .unset]) rfl ?_
    show Steps p.tables e below (T1.setTop (mkF m 6 #[.val (.ref a1), .val (.int p2), .val (.int 34), .unset, .unset, .unset] [])) _
    refine XS.iloadN X1.here hx rfl (hb hby d68_10_6) rfl ?_
    refine XS.aloadN X1.here hx rfl (hb hby d68_10_7) rfl rfl ?_
    refine st3 _ ?_
    show Steps p.tables e below (T3.setTop (mkF m 11 #[.val (.ref a1), .val (.int p2), .val (.int 34), .unset, .unset, .unset] [(.int 0), (.int p2)])) _
    refine XS.ishl X3.here hx rfl (hb hby d68_10_11) rfl ?_
    rw [own_shl0]
    show Steps p.tables e below (T3.setTop (mkF m 12 #[.val (.ref a1), .val (.int p2), .val (.int 34), .unset, .unset, .unset] [(.int p2)])) _
    refine XS.istoreN X3.here hx rfl (hb hby d68_10_12) rfl (l' := #[.val (.ref a1), .val (.int p2), .val (.int 34), .val (.int p2), .unset, .unset]) rfl ?_
    show Steps p.tables e below (T3.setTop (mkF m 13 #[.val (.ref a1), .val (.int p2), .val (.int 34), .val (.int p2), .unset, .unset] [])) _
    refine XS.iloadN X3.here hx rfl (hb hby d68_10_13) rfl ?_
    refine XS.iloadN X3.here hx rfl (hb hby d68_10_14) rfl ?_
    refine XS.isub X3.here hx rfl (hb hby d68_10_15) rfl ?_
    show Steps p.tables e below (T3.setTop (mkF m 16 #[.val (.ref a1), .val (.int p2), .val (.int 34), .val (.int p2), .unset, .unset] [(.int (p2 - (34 : Int32)))])) _
    refine XS.istore X3.here hx rfl (hb hby d68_10_16) rfl (l' := #[.val (.ref a1), .val (.int p2), .val (.int 34), .val (.int p2), .val (.int (p2 - (34 : Int32))), .unset]) rfl ?_
    show Steps p.tables e below (T3.setTop (mkF m 18 #[.val (.ref a1), .val (.int p2), .val (.int 34), .val (.int p2), .val (.int (p2 - (34 : Int32))), .unset] [])) _
    refine XS.iloadN X3.here hx rfl (hb hby d68_10_18) rfl ?_
    refine XS.iload X3.here hx rfl (hb hby d68_10_19) rfl ?_
    refine XS.iloadN X3.here hx rfl (hb hby d68_10_21) rfl ?_
    refine XS.iconst X3.here hx rfl (hb hby d68_10_22) ?_
    refine XS.aloadN X3.here hx rfl (hb hby d68_10_23) rfl rfl ?_
    refine st4 _ ?_
    show Steps p.tables e below (T4.setTop (mkF m 27 #[.val (.ref a1), .val (.int p2), .val (.int 34), .val (.int p2), .val (.int (p2 - (34 : Int32))), .unset] [(.int 0), (.int 2), (.int 34), (.int (p2 - (34 : Int32))), (.int 34)])) _
    refine XS.ishl X4.here hx rfl (hb hby d68_10_27) rfl ?_
    rw [(by decide : ((2 : Int32) <<< ((0 : Int32) &&& 31)) = (2 : Int32))]
    show Steps p.tables e below (T4.setTop (mkF m 28 #[.val (.ref a1), .val (.int p2), .val (.int 34), .val (.int p2), .val (.int (p2 - (34 : Int32))), .unset] [(.int 2), (.int 34), (.int (p2 - (34 : Int32))), (.int 34)])) _
    refine XS.iadd X4.here hx rfl (hb hby d68_10_28) rfl ?_
    rw [(by decide : ((34 : Int32) + (2 : Int32)) = (36 : Int32))]
    show Steps p.tables e below (T4.setTop (mkF m 29 #[.val (.ref a1), .val (.int p2), .val (.int 34), .val (.int p2), .val (.int (p2 - (34 : Int32))), .unset] [(.int 36), (.int (p2 - (34 : Int32))), (.int 34)])) _
    refine st5 _ ?_
    show Steps p.tables e below (T5.setTop (mkF m 32 #[.val (.ref a1), .val (.int p2), .val (.int 34), .val (.int p2), .val (.int (p2 - (34 : Int32))), .unset] [(.int 70)])) _
    refine XS.istore X5.here hx rfl (hb hby d68_10_32) rfl (l' := #[.val (.ref a1), .val (.int p2), .val (.int 34), .val (.int p2), .val (.int (p2 - (34 : Int32))), .val (.int 70)]) rfl ?_
    show Steps p.tables e below (T5.setTop (mkF m 34 #[.val (.ref a1), .val (.int p2), .val (.int 34), .val (.int p2), .val (.int (p2 - (34 : Int32))), .val (.int 70)] [])) _
    refine XS.iload X5.here hx rfl (hb hby d68_10_34) rfl ?_
    refine X5.ldcI hx hown (mvT hZ (own_t hw 187 rfl)) (g := (mkF m 36 #[.val (.ref a1), .val (.int p2), .val (.int 34), .val (.int p2), .val (.int (p2 - (34 : Int32))), .val (.int 70)] [(.int 70)])) rfl (hb hby d68_10_36) ?_
    show Steps p.tables e below (T5.setTop (mkF m 38 #[.val (.ref a1), .val (.int p2), .val (.int 34), .val (.int p2), .val (.int (p2 - (34 : Int32))), .val (.int 70)] [(.int 2147483647), (.int 70)])) _
    refine XS.icmpYes X5.here hx rfl (pc0 := 38) (pc' := 51) rfl (hb hby d68_10_38) rfl (feq (by decide : ¬ ((70 : Int32) = (2147483647 : Int32)))).2 (by decide) (by decide) ?_
    show Steps p.tables e below (T5.setTop (mkF m 51 #[.val (.ref a1), .val (.int p2), .val (.int 34), .val (.int p2), .val (.int (p2 - (34 : Int32))), .val (.int 70)] [])) _
    refine XS.iload X5.here hx rfl (hb hby d68_10_51) rfl ?_
    refine XS.aloadN X5.here hx rfl (hb hby d68_10_53) rfl rfl ?_
    refine st6 _ ?_
    show Steps p.tables e below (T6.setTop (mkF m 57 #[.val (.ref a1), .val (.int p2), .val (.int 34), .val (.int p2), .val (.int (p2 - (34 : Int32))), .val (.int 70)] [(.int 0), (.int 70)])) _
    refine XS.ishr X6.here hx rfl (hb hby d68_10_57) rfl ?_
    rw [(by decide : ((70 : Int32) >>> ((0 : Int32) &&& 31)) = (70 : Int32))]
    show Steps p.tables e below (T6.setTop (mkF m 58 #[.val (.ref a1), .val (.int p2), .val (.int 34), .val (.int p2), .val (.int (p2 - (34 : Int32))), .val (.int 70)] [(.int 70)])) _
    exact retI X6 hx Bd.returns (hb hby d68_10_58) hr
  · show Q_rmNC_34 Z a1 p2 t1 k1 L1 h0 n0 _ T6.heap _
    rw [e6]
    exact ⟨rfl, N5, rfl⟩
def Q_rmECg_34 (Z : State) (a1 : Addr) (p2 : Int32) (cn : Int32) (t1 : Addr) (k1 : ClassId) (L1 : List Value) (L3 : List Value) (h0 : Heap) (n0 : Nat) (v : Option Value) (h : Heap) (L : List Loc) : Prop := ∃ (r : Addr) (kr : ClassId), v = none ∧ Fr n0 L ∧ Keep h0 h [a1] ∧ n0 ≤ r ∧ h0.size ≤ r ∧ Fld Z h a1 "java/lang/AbstractStringBuilder" "value" "[B" (.ref r) ∧ Fld Z h a1 "java/lang/AbstractStringBuilder" "coder" "B" (.int 0) ∧ Fld Z h a1 "java/lang/AbstractStringBuilder" "count" "I" (.int cn) ∧ Arv Z h r kr .byte (70 : Int32) L3 (.int 0)
set_option maxRecDepth 65536 in
set_option maxHeartbeats 40000000 in
theorem rmECg_34 (l : Launch) (Z : State) (a0 : Array Value) (hw : ∀ d ∈ tables_1, d.before a0 Z = true) (ws : List Jvm.Cond) (a1 : Addr) (p2 : Int32) (cn : Int32) (t1 : Addr) (k1 : ClassId) (L1 : List Value) (L3 : List Value) (h0 : Heap) (n0 : Nat) (Z0 : n0 ≤ h0.size) (E_a1 : Exa Z h0 a1 "java/lang/StringBuilder") (F_value_a1 : Fld Z h0 a1 "java/lang/AbstractStringBuilder" "value" "[B" (.ref t1)) (F_coder_a1 : Fld Z h0 a1 "java/lang/AbstractStringBuilder" "coder" "B" (.int 0)) (F_count_a1 : Fld Z h0 a1 "java/lang/AbstractStringBuilder" "count" "I" (.int cn)) (g_a1 : n0 ≤ a1) (V_t1 : Arv Z h0 t1 k1 .byte (34 : Int32) L1 (.int 0)) (hL : own_put [oz, oz, oz, oz, oz, oz, oz, oz, oz, oz, oz, oz, oz, oz, oz, oz, oz, oz, oz, oz, oz, oz, oz, oz, oz, oz, oz, oz, oz, oz, oz, oz, oz, oz, oz, oz, oz, oz, oz, oz, oz, oz, oz, oz, oz, oz, oz, oz, oz, oz, oz, oz, oz, oz, oz, oz, oz, oz, oz, oz, oz, oz, oz, oz, oz, oz, oz, oz, oz, oz] (0 : Int32) L1 (34 : Int32) = L3) (hmx : (p2 - (34 : Int32)) < (36 : Int32)) (hgt : 0 < (p2 - (34 : Int32))) :
    MetFree l (⟨"java/lang/AbstractStringBuilder", "ensureCapacityInternal", "(I)V"⟩ : MethodName) (head1 (Jvm.Cond.code (⟨"java/lang/AbstractStringBuilder", "ensureCapacityInternal", "(I)V"⟩ : MethodName) jdk_68_method_9_code 3 none :: ws) ({ frames := 3, cells := 1, slots := 70, locals := 48 } : Room)) (fun a U => a = #[(.ref a1), (.int p2)] ∧ Z.Warmed39 U.vm ∧ U.heap = h0) (fun _ _ _ _ _ => True) (fun _ U o U' => ∃ v L, o = .returned v ∧ Q_rmECg_34 Z a1 p2 cn t1 k1 L1 L3 h0 n0 v U'.heap L ∧ FrameEnd U o U' L ({ frames := 3, cells := 1, slots := 70, locals := 48 } : Room).cells ({ frames := 3, cells := 1, slots := 70, locals := 48 } : Room).slots) := by
  refine MetFree.of_bodySF (plainFor_of_name pn_1) hisR ?_
  intro p e s m args below meth c s₁ Bd hml0 hP hK
  obtain ⟨rfl, hZ, hh⟩ := hP
  have hx := Bd.exec
  have hby := Bd.bytes
  have hml : c.maxLocals = 3 := hml0
  have hown : s.vm.findClass "java/lang/AbstractStringBuilder" = some m.cls := findClass_of_methodNamed Bd.named
  have hnm := (name_of_methodNamed Bd.named Bd.method).1
  have X0 : Stand p l e ({ frames := 3, cells := 1, slots := 70, locals := 48 } : Room) s m #[(.ref a1), (.int p2)] below meth c s₁ [] 0 0 := Stand.of_body Bd
  have e0 : s₁.heap = h0 := by rw [← hh, Bd.state]; rfl
  have N0 := Fr.nil n0
  have pre0 : ∀ t, Steps p.tables e below (s₁.setTop (mkF m 0 #[.val (.ref a1), .val (.int p2), .unset] [])) t → Steps p.tables e below (s₁.setTop (entryFrame m #[(.ref a1), (.int p2)] 3)) t := fun t k => castTop (ef_4 m a1 p2) k
  obtain ⟨T1, X1, e1, st1⟩ := getF X0 hx hZ hown (host := "") (Or.inl (own_t hw 125 rfl)) Via.refl e0 F_value_a1 (g := (mkF m 1 #[.val (.ref a1), .val (.int p2), .unset] [(.ref a1)])) rfl rfl (hb hby d68_9_1)
  obtain ⟨cl2, Ar2, q2, S2, M2, H2, G2⟩ := id V_t1
  obtain ⟨T3, X3, e3, st3⟩ := getF X1 hx hZ hown (host := "") (Or.inl (own_t hw 127 rfl)) Via.refl e1 F_coder_a1 (g := (mkF m 6 #[.val (.ref a1), .val (.int p2), .unset] [(.ref a1), (.int 34)])) rfl rfl (hb hby d68_9_6)
  obtain ⟨T4, X4, e4, st4⟩ := getF X3 hx hZ hown (host := "") (Or.inl (own_t hw 125 rfl)) Via.refl e3 F_value_a1 (g := (mkF m 19 #[.val (.ref a1), .val (.int p2), .val (.int 34)] [(.ref a1), (.ref a1)])) rfl rfl (hb hby d68_9_19)
  obtain ⟨cq5, kq5, q5a, q5b, q5c⟩ := isOf hZ e4 E_a1
  obtain ⟨_, _, ⟨T5, LL5, kk5, nn5⟩, -, X5, ⟨Lc5, hQ5, l5, y5, z5⟩, st5⟩ := own_privBack X4 hx (y := (⟨"java/lang/AbstractStringBuilder", "newCapacity", "(I)I"⟩ : MethodName)) hown (mvT hZ (own_t hw 173 rfl)) (mvT hZ (own_t hw 175 rfl)) (mvT hZ (own_t hw 176 rfl)) (mvT hZ (own_t hw 174 rfl)) (mvT hZ (own_t hw 177 rfl)) (by decide) (backOf (W := 2) (rmNC_34 l Z a0 hw [] a1 p2 t1 k1 L1 h0 n0 Z0 F_value_a1 F_coder_a1 V_t1 (hmx)) hZ (own_t hw 177 rfl) (own_t hw 121 rfl) (by decide) (by decide)) q5c (g := (mkF m 24 #[.val (.ref a1), .val (.int p2), .val (.int 34)] [(.int p2), (.ref a1), (.ref t1), (.ref a1)])) rfl (by rw [hml]; rfl) (Steps.refl _) (argsL := [(.int p2)]) (rest := [(.ref t1), (.ref a1)]) (lenOf pd_9 rfl) rfl (by show 2 * 0 + _ ≤ _; exact Nat.le_of_eq rfl) (hb hby d68_9_24) (fun _ _ => ⟨rfl, e4, (by decide : 0 + 0 ≤ _), (by decide : 0 + 0 ≤ _)⟩)
  dsimp only [Pt.U, Pt.locs, Pt.cells, Pt.slots] at X5 l5 y5 z5 st5 hQ5
  subst l5 y5 z5
  obtain ⟨rfl, N5q, e5⟩ := hQ5
  have N5 := Fr.app N0 N5q
  obtain ⟨T6, X6, e6, st6⟩ := getF X5 hx hZ hown (host := "") (Or.inl (own_t hw 127 rfl)) Via.refl e5 F_coder_a1 (g := (mkF m 28 #[.val (.ref a1), .val (.int p2), .val (.int 34)] [(.ref a1), (.int 70), (.ref t1), (.ref a1)])) rfl rfl (hb hby d68_9_28)
  obtain ⟨_, _, ⟨T7, LL7, kk7, nn7⟩, -, X7, ⟨Lc7, hQ7, l7, y7, z7⟩, st7⟩ := Jvm.LawKit.callS X6 hx (y := (⟨"java/util/Arrays", "copyOf", "([BI)[B"⟩ : MethodName)) hown (mvT hZ (own_t hw 188 rfl)) (mvT hZ (own_t hw 189 rfl)) (mvT hZ (own_t hw 190 rfl)) (mvT hZ (own_t hw 191 rfl)) (by decide) (backOf (W := 1) (rmCp_34 l Z a0 hw [] t1 k1 L1 L3 h0 n0 Z0 V_t1 (hL)) hZ (own_t hw 191 rfl) (own_t hw 190 rfl) (by decide) (by decide)) (g := (mkF m 32 #[.val (.ref a1), .val (.int p2), .val (.int 34)] [(.int 70), (.ref t1), (.ref a1)])) rfl (by rw [hml]; rfl) (argsL := [(.ref t1), (.int 70)]) (rest := [(.ref a1)]) (lenOf pd_10 rfl) rfl (by show 2 * 0 + _ ≤ _; exact Nat.le_of_eq rfl) (hb hby d68_9_32) (fun _ _ => ⟨rfl, e6, (by decide : 0 + 1 ≤ _), (by decide : 0 + 70 ≤ _)⟩)
  dsimp only [Pt.U, Pt.locs, Pt.cells, Pt.slots] at X7 l7 y7 z7 st7 hQ7
  subst l7 y7 z7
  obtain ⟨b_7, kb_7, rfl, N7q, K7, g_b_7, sq_b_7, p7_0⟩ := hQ7
  have N7 := Fr.app N5 N7q
  have sz_b_7 : h0.size ≤ b_7 := Nat.le_trans (Keep.refl h0 [a1]).1 sq_b_7
  have Q7 : Keep h0 T7.heap [a1] := (Keep.refl h0 [a1]).trans K7 all0
  obtain ⟨T8, h8, X8, e8, W8, st8⟩ := putF X7 hx hZ hown (host := "") (Or.inl (own_t hw 125 rfl)) Via.refl rfl (F_value_a1.keep K7 nin0) (E_a1.keep K7) (Or.inl (own_t hw 126 rfl)) (own_t hw 112 rfl) (ty := (.array .byte)) (by decide) rfl rfl (g := (mkF m 35 #[.val (.ref a1), .val (.int p2), .val (.int 34)] [(.ref b_7), (.ref a1)])) rfl rfl (hb hby d68_9_35)
  have Fw8 := (F_value_a1.keep K7 nin0).same W8
  have Q8 : Keep h0 h8 [a1] := Q7.wr W8 (Or.inl (List.mem_of_getElem? (i := 0) rfl))
  have N8 := Fr.snoc X8 N7 g_a1
  have nq0 : b_7 ≠ a1 := (Ne.symm (Nat.ne_of_lt (Nat.lt_of_lt_of_le E_a1.lt sq_b_7)))
  obtain ⟨fs, hr, hrun, hended, hW, hsame⟩ := X8.leave (v := none) (fun _ => rfl)
  refine ⟨_, _, pre0 _ ?_, hrun, hended, _, _, rfl, ?_, ⟨_, rfl⟩, hW, hsame.mono (by decide) (by decide)⟩
  · show Steps p.tables e below (s₁.setTop (mkF m 0 #[.val (.ref a1), .val (.int p2), .unset] [])) _
    refine XS.aloadN X0.here hx rfl (hb hby d68_9_0) rfl rfl ?_
    refine st1 _ ?_
    show Steps p.tables e below (T1.setTop (mkF m 4 #[.val (.ref a1), .val (.int p2), .unset] [(.ref t1)])) _
    refine X1.arraylength hx (by rw [e1]; exact Ar2.1) (State.isArrayOf_alike hZ.alike Ar2.2.1) (g := (mkF m 4 #[.val (.ref a1), .val (.int p2), .unset] [(.ref t1)])) rfl rfl (hb hby d68_9_4) _ ?_
    rw [len_of S2 M2]
    show Steps p.tables e below (T1.setTop (mkF m 5 #[.val (.ref a1), .val (.int p2), .unset] [(.int 34)])) _
    refine XS.aloadN X1.here hx rfl (hb hby d68_9_5) rfl rfl ?_
    refine st3 _ ?_
    show Steps p.tables e below (T3.setTop (mkF m 9 #[.val (.ref a1), .val (.int p2), .unset] [(.int 0), (.int 34)])) _
    refine XS.ishr X3.here hx rfl (hb hby d68_9_9) rfl ?_
    rw [(by decide : ((34 : Int32) >>> ((0 : Int32) &&& 31)) = (34 : Int32))]
    show Steps p.tables e below (T3.setTop (mkF m 10 #[.val (.ref a1), .val (.int p2), .unset] [(.int 34)])) _
    refine XS.istoreN X3.here hx rfl (hb hby d68_9_10) rfl (l' := #[.val (.ref a1), .val (.int p2), .val (.int 34)]) rfl ?_
    show Steps p.tables e below (T3.setTop (mkF m 11 #[.val (.ref a1), .val (.int p2), .val (.int 34)] [])) _
    refine XS.iloadN X3.here hx rfl (hb hby d68_9_11) rfl ?_
    refine XS.iloadN X3.here hx rfl (hb hby d68_9_12) rfl ?_
    refine XS.isub X3.here hx rfl (hb hby d68_9_13) rfl ?_
    show Steps p.tables e below (T3.setTop (mkF m 14 #[.val (.ref a1), .val (.int p2), .val (.int 34)] [(.int (p2 - (34 : Int32)))])) _
    refine XS.ifNo X3.here hx rfl (hb hby d68_9_14) rfl ((if0 _ _).trans (tlt hgt).2.2.2) ?_
    show Steps p.tables e below (T3.setTop (mkF m 17 #[.val (.ref a1), .val (.int p2), .val (.int 34)] [])) _
    refine XS.aloadN X3.here hx rfl (hb hby d68_9_17) rfl rfl ?_
    refine XS.aloadN X3.here hx rfl (hb hby d68_9_18) rfl rfl ?_
    refine st4 _ ?_
    show Steps p.tables e below (T4.setTop (mkF m 22 #[.val (.ref a1), .val (.int p2), .val (.int 34)] [(.ref t1), (.ref a1)])) _
    refine XS.aloadN X4.here hx rfl (hb hby d68_9_22) rfl rfl ?_
    refine XS.iloadN X4.here hx rfl (hb hby d68_9_23) rfl ?_
    refine st5.trans ?_
    show Steps p.tables e below (T5.setTop (mkF m 27 #[.val (.ref a1), .val (.int p2), .val (.int 34)] [(.int 70), (.ref t1), (.ref a1)])) _
    refine XS.aloadN X5.here hx rfl (hb hby d68_9_27) rfl rfl ?_
    refine st6 _ ?_
    show Steps p.tables e below (T6.setTop (mkF m 31 #[.val (.ref a1), .val (.int p2), .val (.int 34)] [(.int 0), (.int 70), (.ref t1), (.ref a1)])) _
    refine XS.ishl X6.here hx rfl (hb hby d68_9_31) rfl ?_
    rw [(by decide : ((70 : Int32) <<< ((0 : Int32) &&& 31)) = (70 : Int32))]
    show Steps p.tables e below (T6.setTop (mkF m 32 #[.val (.ref a1), .val (.int p2), .val (.int 34)] [(.int 70), (.ref t1), (.ref a1)])) _
    refine st7 _ ?_
    show Steps p.tables e below (T7.setTop (mkF m 35 #[.val (.ref a1), .val (.int p2), .val (.int 34)] [(.ref b_7), (.ref a1)])) _
    refine st8 _ ?_
    show Steps p.tables e below (T8.setTop (mkF m 38 #[.val (.ref a1), .val (.int p2), .val (.int 34)] [])) _
    exact X8.returnOut hx Bd.returns (hb hby d68_9_38) hr
  · show Q_rmECg_34 Z a1 p2 cn t1 k1 L1 L3 h0 n0 _ T8.heap _
    rw [e8]
    exact ⟨b_7, kb_7, rfl, N8, Q8, g_b_7, sz_b_7, Fw8, ((F_coder_a1.keep K7 nin0).other W8 (Or.inr (slot_ne (Or.inl (own_t hw 128 rfl)) (Or.inl (own_t hw 126 rfl)) (by decide) (t := .byte) (t' := (.array .byte)) (by decide) (by decide)))), ((F_count_a1.keep K7 nin0).other W8 (Or.inr (slot_ne (Or.inl (own_t hw 146 rfl)) (Or.inl (own_t hw 126 rfl)) (by decide) (t := .int) (t' := (.array .byte)) (by decide) (by decide)))), (p7_0.other W8 nq0)⟩
def Q_rmAA_34 (Z : State) (a1 : Addr) (a2 : Addr) (cn : Int32) (z : Int32) (c2 : Int32) (t1 : Addr) (k1 : ClassId) (L1 : List Value) (t2 : Addr) (k2 : ClassId) (L2 : List Value) (L3 : List Value) (L4 : List Value) (zc : Int32) (h0 : Heap) (n0 : Nat) (v : Option Value) (h : Heap) (L : List Loc) : Prop := ∃ (r : Addr) (kr : ClassId), v = some (.ref a1) ∧ Fr n0 L ∧ Keep h0 h [a1] ∧ n0 ≤ r ∧ h0.size ≤ r ∧ Fld Z h a1 "java/lang/AbstractStringBuilder" "value" "[B" (.ref r) ∧ Fld Z h a1 "java/lang/AbstractStringBuilder" "coder" "B" (.int 0) ∧ Fld Z h a1 "java/lang/AbstractStringBuilder" "count" "I" (.int c2) ∧ Arv Z h r kr .byte (70 : Int32) L4 (.int 0)
set_option maxRecDepth 65536 in
set_option maxHeartbeats 40000000 in
theorem rmAA_34 (l : Launch) (Z : State) (a0 : Array Value) (hw : ∀ d ∈ tables_1, d.before a0 Z = true) (ws : List Jvm.Cond) (a1 : Addr) (a2 : Addr) (cn : Int32) (z : Int32) (c2 : Int32) (t1 : Addr) (k1 : ClassId) (L1 : List Value) (t2 : Addr) (k2 : ClassId) (L2 : List Value) (L3 : List Value) (L4 : List Value) (zc : Int32) (h0 : Heap) (n0 : Nat) (Z0 : n0 ≤ h0.size) (E_a1 : Exa Z h0 a1 "java/lang/StringBuilder") (F_value_a1 : Fld Z h0 a1 "java/lang/AbstractStringBuilder" "value" "[B" (.ref t1)) (F_coder_a1 : Fld Z h0 a1 "java/lang/AbstractStringBuilder" "coder" "B" (.int 0)) (F_count_a1 : Fld Z h0 a1 "java/lang/AbstractStringBuilder" "count" "I" (.int cn)) (g_a1 : n0 ≤ a1) (V_t1 : Arv Z h0 t1 k1 .byte (34 : Int32) L1 (.int 0)) (E_a2 : Exa Z h0 a2 "java/lang/String") (F_value_a2 : Fld Z h0 a2 "java/lang/String" "value" "[B" (.ref t2)) (F_coder_a2 : Fld Z h0 a2 "java/lang/String" "coder" "B" (.int 0)) (V_t2 : Arv Z h0 t2 k2 .byte z L2 (.int 0)) (S_COMPACT_STRINGS_ : Sta Z h0 "java/lang/String" "COMPACT_STRINGS" "Z" (.int zc)) (hzc : ¬ zc = 0) (hL : own_put [oz, oz, oz, oz, oz, oz, oz, oz, oz, oz, oz, oz, oz, oz, oz, oz, oz, oz, oz, oz, oz, oz, oz, oz, oz, oz, oz, oz, oz, oz, oz, oz, oz, oz, oz, oz, oz, oz, oz, oz, oz, oz, oz, oz, oz, oz, oz, oz, oz, oz, oz, oz, oz, oz, oz, oz, oz, oz, oz, oz, oz, oz, oz, oz, oz, oz, oz, oz, oz, oz] (0 : Int32) L1 (34 : Int32) = L3) (hmx : (c2 - (34 : Int32)) < (36 : Int32)) (hgt : 0 < (c2 - (34 : Int32))) (hc2 : cn + z = c2) (hpos : ¬ cn < 0) (hz : ¬ z < 0) (h5 : (cn).toNatClampNeg + (z).toNatClampNeg ≤ ((70 : Int32)).toNatClampNeg) (hl3 : (cn).toNatClampNeg + (z).toNatClampNeg ≤ (L3).length) (hL4 : own_put L3 cn L2 z = L4) :
    MetFree l (⟨"java/lang/AbstractStringBuilder", "append", "(Ljava/lang/String;)Ljava/lang/AbstractStringBuilder;"⟩ : MethodName) (head1 (Jvm.Cond.code (⟨"java/lang/AbstractStringBuilder", "append", "(Ljava/lang/String;)Ljava/lang/AbstractStringBuilder;"⟩ : MethodName) jdk_68_method_22_code 3 (some (.object "java/lang/AbstractStringBuilder")) :: ws) ({ frames := 4, cells := 1, slots := 70, locals := 62 } : Room)) (fun a U => a = #[(.ref a1), (.ref a2)] ∧ Z.Warmed39 U.vm ∧ U.heap = h0) (fun _ _ _ _ _ => True) (fun _ U o U' => ∃ v L, o = .returned v ∧ Q_rmAA_34 Z a1 a2 cn z c2 t1 k1 L1 t2 k2 L2 L3 L4 zc h0 n0 v U'.heap L ∧ FrameEnd U o U' L ({ frames := 4, cells := 1, slots := 70, locals := 62 } : Room).cells ({ frames := 4, cells := 1, slots := 70, locals := 62 } : Room).slots) := by
  refine MetFree.of_bodySF (plainFor_of_name pn_1) hisR ?_
  intro p e s m args below meth c s₁ Bd hml0 hP hK
  obtain ⟨rfl, hZ, hh⟩ := hP
  have hx := Bd.exec
  have hby := Bd.bytes
  have hml : c.maxLocals = 3 := hml0
  have hown : s.vm.findClass "java/lang/AbstractStringBuilder" = some m.cls := findClass_of_methodNamed Bd.named
  have hnm := (name_of_methodNamed Bd.named Bd.method).1
  have X0 : Stand p l e ({ frames := 4, cells := 1, slots := 70, locals := 62 } : Room) s m #[(.ref a1), (.ref a2)] below meth c s₁ [] 0 0 := Stand.of_body Bd
  have e0 : s₁.heap = h0 := by rw [← hh, Bd.state]; rfl
  have N0 := Fr.nil n0
  have pre0 : ∀ t, Steps p.tables e below (s₁.setTop (mkF m 0 #[.val (.ref a1), .val (.ref a2), .unset] [])) t → Steps p.tables e below (s₁.setTop (entryFrame m #[(.ref a1), (.ref a2)] 3)) t := fun t k => castTop (ef_5 m a1 a2) k
  obtain ⟨cq1, kq1, q1a, q1b, q1c⟩ := isOf hZ e0 E_a2
  obtain ⟨_, _, ⟨T1, LL1, kk1, nn1⟩, -, X1, ⟨Lc1, hQ1, l1, y1, z1⟩, st1⟩ := X0.virtualBack hx (y := (⟨"java/lang/String", "length", "()I"⟩ : MethodName)) (z := (⟨"java/lang/String", "length", "()I"⟩ : MethodName)) hown (mvT hZ (own_t hw 140 rfl)) (mvT hZ (own_t hw 141 rfl)) (notFace_of_selects (args := #[]) (mvT hZ (own_t hw 143 rfl))) (mvT hZ (own_t hw 143 rfl)) (mvT hZ (own_t hw 142 rfl)) (by decide) (backOf (W := 0) (rmLn l Z a0 hw [] a2 t2 k2 z L2 zc h0 n0 Z0 E_a2 F_value_a2 F_coder_a2 V_t2 S_COMPACT_STRINGS_ (hzc)) hZ (own_t hw 144 rfl) (own_t hw 3 rfl) (by decide) (by decide)) q1a q1c (g := (mkF m 10 #[.val (.ref a1), .val (.ref a2), .unset] [(.ref a2)])) rfl (by rw [hml]; rfl) (Steps.refl _) (argsL := []) (rest := []) (lenOf pd_3 rfl) rfl (by show 2 * 0 + _ ≤ _; exact Nat.le_of_eq rfl) (hb hby d68_22_10) (fun _ _ => ⟨rfl, e0, (by decide : 0 + 0 ≤ _), (by decide : 0 + 0 ≤ _)⟩)
  dsimp only [Pt.U, Pt.locs, Pt.cells, Pt.slots] at X1 l1 y1 z1 st1 hQ1
  subst l1 y1 z1
  obtain ⟨rfl, N1q, e1⟩ := hQ1
  have N1 := Fr.app N0 N1q
  obtain ⟨T2, X2, e2, st2⟩ := getF X1 hx hZ hown (host := "") (Or.inl (own_t hw 145 rfl)) Via.refl e1 F_count_a1 (g := (mkF m 16 #[.val (.ref a1), .val (.ref a2), .val (.int z)] [(.ref a1), (.ref a1)])) rfl rfl (hb hby d68_22_16)
  obtain ⟨cq3, kq3, q3a, q3b, q3c⟩ := isOf hZ e2 E_a1
  obtain ⟨_, _, ⟨T3, LL3, kk3, nn3⟩, -, X3, ⟨Lc3, hQ3, l3, y3, z3⟩, st3⟩ := own_privBack X2 hx (y := (⟨"java/lang/AbstractStringBuilder", "ensureCapacityInternal", "(I)V"⟩ : MethodName)) hown (mvT hZ (own_t hw 147 rfl)) (mvT hZ (own_t hw 149 rfl)) (mvT hZ (own_t hw 150 rfl)) (mvT hZ (own_t hw 148 rfl)) (mvT hZ (own_t hw 151 rfl)) (by decide) (backOf (W := 0) (rmECg_34 l Z a0 hw [] a1 c2 cn t1 k1 L1 L3 h0 n0 Z0 E_a1 F_value_a1 F_coder_a1 F_count_a1 g_a1 V_t1 (hL) (hmx) (hgt)) hZ (own_t hw 151 rfl) (own_t hw 121 rfl) (by decide) (by decide)) q3c (g := (mkF m 21 #[.val (.ref a1), .val (.ref a2), .val (.int z)] [(.int c2), (.ref a1)])) rfl (by rw [hml]; rfl) (Steps.refl _) (argsL := [(.int c2)]) (rest := []) (lenOf pd_4 rfl) rfl (by show 2 * 0 + _ ≤ _; exact Nat.le_of_eq rfl) (hb hby d68_22_21) (fun _ _ => ⟨rfl, e2, (by decide : 0 + 1 ≤ _), (by decide : 0 + 70 ≤ _)⟩)
  dsimp only [Pt.U, Pt.locs, Pt.cells, Pt.slots] at X3 l3 y3 z3 st3 hQ3
  subst l3 y3 z3
  obtain ⟨r_3, kr_3, rfl, N3q, K3, g_r_3, sq_r_3, p3_0, p3_1, p3_2, p3_3⟩ := hQ3
  have N3 := Fr.app N1 N3q
  have sz_r_3 : h0.size ≤ r_3 := Nat.le_trans (Keep.refl h0 [a1]).1 sq_r_3
  have Q3 : Keep h0 T3.heap [a1] := (Keep.refl h0 [a1]).trans K3 (allS (Or.inl (List.mem_of_getElem? (i := 0) rfl)) all0)
  obtain ⟨T4, X4, e4, st4⟩ := getF X3 hx hZ hown (host := "") (Or.inl (own_t hw 145 rfl)) Via.refl rfl p3_2 (g := (mkF m 26 #[.val (.ref a1), .val (.ref a2), .val (.int z)] [(.ref a1), (.ref a1)])) rfl rfl (hb hby d68_22_26)
  have nq0 : a2 ≠ a1 := (own_exex E_a2 E_a1 (by decide))
  have nq1 : t2 ≠ a1 := (Ne.symm (own_exarv (own_t hw 112 rfl) E_a1 V_t2))
  obtain ⟨cq5, kq5, q5a, q5b, q5c⟩ := isOf hZ e4 (E_a1.keep K3)
  obtain ⟨_, _, ⟨T5, LL5, kk5, nn5⟩, -, X5, ⟨Lc5, hQ5, l5, y5, z5⟩, st5⟩ := own_privBack X4 hx (y := (⟨"java/lang/AbstractStringBuilder", "putStringAt", "(ILjava/lang/String;)V"⟩ : MethodName)) hown (mvT hZ (own_t hw 152 rfl)) (mvT hZ (own_t hw 154 rfl)) (mvT hZ (own_t hw 155 rfl)) (mvT hZ (own_t hw 153 rfl)) (mvT hZ (own_t hw 156 rfl)) (by decide) (backOf (W := 0) (rmPS l Z a0 hw [] a1 cn a2 r_3 t2 k2 z L2 kr_3 (70 : Int32) L3 L4 zc T3.heap n0 (Nat.le_trans Z0 K3.1) (E_a1.keep K3) p3_0 p3_1 (E_a2.keep K3) (F_value_a2.keep K3 (ninS nq0 nin0)) (F_coder_a2.keep K3 (ninS nq0 nin0)) (V_t2.keep K3 (ninS nq1 nin0)) p3_3 g_r_3 (own_sta_keep1 S_COMPACT_STRINGS_ K3 E_a1) (hzc) (hpos) (hz) (h5) (hl3) (hL4)) hZ (own_t hw 156 rfl) (own_t hw 121 rfl) (by decide) (by decide)) q5c (g := (mkF m 30 #[.val (.ref a1), .val (.ref a2), .val (.int z)] [(.ref a2), (.int cn), (.ref a1)])) rfl (by rw [hml]; rfl) (Steps.refl _) (argsL := [(.int cn), (.ref a2)]) (rest := []) (lenOf pd_5 rfl) rfl (by show 2 * 0 + _ ≤ _; exact Nat.le_of_eq rfl) (hb hby d68_22_30) (fun _ _ => ⟨rfl, e4, (by decide : 1 + 0 ≤ _), (by decide : 70 + 0 ≤ _)⟩)
  dsimp only [Pt.U, Pt.locs, Pt.cells, Pt.slots] at X5 l5 y5 z5 st5 hQ5
  subst l5 y5 z5
  obtain ⟨rfl, N5q, K5, p5_0⟩ := hQ5
  have N5 := Fr.app N3 N5q
  have Q5 : Keep h0 T5.heap [a1] := Q3.trans K5 (allS (Or.inr sz_r_3) all0)
  have nq2 : a1 ≠ r_3 := (Nat.ne_of_lt (Nat.lt_of_lt_of_le E_a1.lt sq_r_3))
  obtain ⟨T6, X6, e6, st6⟩ := getF X5 hx hZ hown (host := "") (Or.inl (own_t hw 145 rfl)) Via.refl rfl (p3_2.keep K5 (ninS nq2 nin0)) (g := (mkF m 35 #[.val (.ref a1), .val (.ref a2), .val (.int z)] [(.ref a1), (.ref a1)])) rfl rfl (hb hby d68_22_35)
  obtain ⟨T7, h7, X7, e7, W7, st7⟩ := putF X6 hx hZ hown (host := "") (Or.inl (own_t hw 145 rfl)) Via.refl e6 (p3_2.keep K5 (ninS nq2 nin0)) ((E_a1.keep K3).keep K5) (Or.inl (own_t hw 146 rfl)) (own_t hw 112 rfl) (ty := .int) (by decide) rfl rfl (g := (mkF m 40 #[.val (.ref a1), .val (.ref a2), .val (.int z)] [(.int c2), (.ref a1)])) rfl rfl (hb hby d68_22_40)
  have Fw7 := (p3_2.keep K5 (ninS nq2 nin0)).same W7
  have Q7 : Keep h0 h7 [a1] := Q5.wr W7 (Or.inl (List.mem_of_getElem? (i := 0) rfl))
  have N7 := Fr.snoc X7 N5 g_a1
  obtain ⟨fs, hr, hrun, hended, hW, hsame⟩ := X7.leave (v := some (.ref a1)) (fun h => by rw [Bd.returns] at h; cases h)
  refine ⟨_, _, pre0 _ ?_, hrun, hended, _, _, rfl, ?_, ⟨_, rfl⟩, hW, hsame.mono (by decide) (by decide)⟩
  · show Steps p.tables e below (s₁.setTop (mkF m 0 #[.val (.ref a1), .val (.ref a2), .unset] [])) _
    refine XS.aloadN X0.here hx rfl (hb hby d68_22_0) rfl rfl ?_
    refine XS.ifnonnullYes X0.here hx rfl (pc0 := 1) (pc' := 9) rfl (hb hby d68_22_1) rfl (by decide) (by decide) ?_
    show Steps p.tables e below (s₁.setTop (mkF m 9 #[.val (.ref a1), .val (.ref a2), .unset] [])) _
    refine XS.aloadN X0.here hx rfl (hb hby d68_22_9) rfl rfl ?_
    refine st1.trans ?_
    show Steps p.tables e below (T1.setTop (mkF m 13 #[.val (.ref a1), .val (.ref a2), .unset] [(.int z)])) _
    refine XS.istoreN X1.here hx rfl (hb hby d68_22_13) rfl (l' := #[.val (.ref a1), .val (.ref a2), .val (.int z)]) rfl ?_
    show Steps p.tables e below (T1.setTop (mkF m 14 #[.val (.ref a1), .val (.ref a2), .val (.int z)] [])) _
    refine XS.aloadN X1.here hx rfl (hb hby d68_22_14) rfl rfl ?_
    refine XS.aloadN X1.here hx rfl (hb hby d68_22_15) rfl rfl ?_
    refine st2 _ ?_
    show Steps p.tables e below (T2.setTop (mkF m 19 #[.val (.ref a1), .val (.ref a2), .val (.int z)] [(.int cn), (.ref a1)])) _
    refine XS.iloadN X2.here hx rfl (hb hby d68_22_19) rfl ?_
    refine XS.iadd X2.here hx rfl (hb hby d68_22_20) rfl ?_
    rw [hc2]
    show Steps p.tables e below (T2.setTop (mkF m 21 #[.val (.ref a1), .val (.ref a2), .val (.int z)] [(.int c2), (.ref a1)])) _
    refine st3.trans ?_
    show Steps p.tables e below (T3.setTop (mkF m 24 #[.val (.ref a1), .val (.ref a2), .val (.int z)] [])) _
    refine XS.aloadN X3.here hx rfl (hb hby d68_22_24) rfl rfl ?_
    refine XS.aloadN X3.here hx rfl (hb hby d68_22_25) rfl rfl ?_
    refine st4 _ ?_
    show Steps p.tables e below (T4.setTop (mkF m 29 #[.val (.ref a1), .val (.ref a2), .val (.int z)] [(.int cn), (.ref a1)])) _
    refine XS.aloadN X4.here hx rfl (hb hby d68_22_29) rfl rfl ?_
    refine st5.trans ?_
    show Steps p.tables e below (T5.setTop (mkF m 33 #[.val (.ref a1), .val (.ref a2), .val (.int z)] [])) _
    refine XS.aloadN X5.here hx rfl (hb hby d68_22_33) rfl rfl ?_
    refine XS.dup X5.here hx rfl (hb hby d68_22_34) rfl rfl ?_
    refine st6 _ ?_
    show Steps p.tables e below (T6.setTop (mkF m 38 #[.val (.ref a1), .val (.ref a2), .val (.int z)] [(.int cn), (.ref a1)])) _
    refine XS.iloadN X6.here hx rfl (hb hby d68_22_38) rfl ?_
    refine XS.iadd X6.here hx rfl (hb hby d68_22_39) rfl ?_
    rw [hc2]
    show Steps p.tables e below (T6.setTop (mkF m 40 #[.val (.ref a1), .val (.ref a2), .val (.int z)] [(.int c2), (.ref a1)])) _
    refine st7 _ ?_
    show Steps p.tables e below (T7.setTop (mkF m 43 #[.val (.ref a1), .val (.ref a2), .val (.int z)] [])) _
    refine XS.aloadN X7.here hx rfl (hb hby d68_22_43) rfl rfl ?_
    exact X7.areturnOut hx rfl Bd.returns rfl (hb hby d68_22_44) hr
  · show Q_rmAA_34 Z a1 a2 cn z c2 t1 k1 L1 t2 k2 L2 L3 L4 zc h0 n0 _ T7.heap _
    rw [e7]
    exact ⟨r_3, kr_3, rfl, N7, Q7, g_r_3, sz_r_3, ((p3_0.keep K5 (ninS nq2 nin0)).other W7 (Or.inr (slot_ne (Or.inl (own_t hw 126 rfl)) (Or.inl (own_t hw 146 rfl)) (by decide) (t := (.array .byte)) (t' := .int) (by decide) (by decide)))), ((p3_1.keep K5 (ninS nq2 nin0)).other W7 (Or.inr (slot_ne (Or.inl (own_t hw 128 rfl)) (Or.inl (own_t hw 146 rfl)) (by decide) (t := .byte) (t' := .int) (by decide) (by decide)))), Fw7, (p5_0.other W7 nq2.symm)⟩
def Q_rmSA_34 (Z : State) (a1 : Addr) (a2 : Addr) (cn : Int32) (z : Int32) (c2 : Int32) (t1 : Addr) (k1 : ClassId) (L1 : List Value) (t2 : Addr) (k2 : ClassId) (L2 : List Value) (L3 : List Value) (L4 : List Value) (zc : Int32) (h0 : Heap) (n0 : Nat) (v : Option Value) (h : Heap) (L : List Loc) : Prop := ∃ (r : Addr) (kr : ClassId), v = some (.ref a1) ∧ Fr n0 L ∧ Keep h0 h [a1] ∧ n0 ≤ r ∧ h0.size ≤ r ∧ Fld Z h a1 "java/lang/AbstractStringBuilder" "value" "[B" (.ref r) ∧ Fld Z h a1 "java/lang/AbstractStringBuilder" "coder" "B" (.int 0) ∧ Fld Z h a1 "java/lang/AbstractStringBuilder" "count" "I" (.int c2) ∧ Arv Z h r kr .byte (70 : Int32) L4 (.int 0)
set_option maxRecDepth 65536 in
set_option maxHeartbeats 40000000 in
theorem rmSA_34 (l : Launch) (Z : State) (a0 : Array Value) (hw : ∀ d ∈ tables_1, d.before a0 Z = true) (ws : List Jvm.Cond) (a1 : Addr) (a2 : Addr) (cn : Int32) (z : Int32) (c2 : Int32) (t1 : Addr) (k1 : ClassId) (L1 : List Value) (t2 : Addr) (k2 : ClassId) (L2 : List Value) (L3 : List Value) (L4 : List Value) (zc : Int32) (h0 : Heap) (n0 : Nat) (Z0 : n0 ≤ h0.size) (E_a1 : Exa Z h0 a1 "java/lang/StringBuilder") (F_value_a1 : Fld Z h0 a1 "java/lang/AbstractStringBuilder" "value" "[B" (.ref t1)) (F_coder_a1 : Fld Z h0 a1 "java/lang/AbstractStringBuilder" "coder" "B" (.int 0)) (F_count_a1 : Fld Z h0 a1 "java/lang/AbstractStringBuilder" "count" "I" (.int cn)) (g_a1 : n0 ≤ a1) (V_t1 : Arv Z h0 t1 k1 .byte (34 : Int32) L1 (.int 0)) (E_a2 : Exa Z h0 a2 "java/lang/String") (F_value_a2 : Fld Z h0 a2 "java/lang/String" "value" "[B" (.ref t2)) (F_coder_a2 : Fld Z h0 a2 "java/lang/String" "coder" "B" (.int 0)) (V_t2 : Arv Z h0 t2 k2 .byte z L2 (.int 0)) (S_COMPACT_STRINGS_ : Sta Z h0 "java/lang/String" "COMPACT_STRINGS" "Z" (.int zc)) (hzc : ¬ zc = 0) (hL : own_put [oz, oz, oz, oz, oz, oz, oz, oz, oz, oz, oz, oz, oz, oz, oz, oz, oz, oz, oz, oz, oz, oz, oz, oz, oz, oz, oz, oz, oz, oz, oz, oz, oz, oz, oz, oz, oz, oz, oz, oz, oz, oz, oz, oz, oz, oz, oz, oz, oz, oz, oz, oz, oz, oz, oz, oz, oz, oz, oz, oz, oz, oz, oz, oz, oz, oz, oz, oz, oz, oz] (0 : Int32) L1 (34 : Int32) = L3) (hmx : (c2 - (34 : Int32)) < (36 : Int32)) (hgt : 0 < (c2 - (34 : Int32))) (hc2 : cn + z = c2) (hpos : ¬ cn < 0) (hz : ¬ z < 0) (h5 : (cn).toNatClampNeg + (z).toNatClampNeg ≤ ((70 : Int32)).toNatClampNeg) (hl3 : (cn).toNatClampNeg + (z).toNatClampNeg ≤ (L3).length) (hL4 : own_put L3 cn L2 z = L4) :
    MetFree l (⟨"java/lang/StringBuilder", "append", "(Ljava/lang/String;)Ljava/lang/StringBuilder;"⟩ : MethodName) (head1 (Jvm.Cond.code (⟨"java/lang/StringBuilder", "append", "(Ljava/lang/String;)Ljava/lang/StringBuilder;"⟩ : MethodName) jdk_67_method_7_code 2 (some (.object "java/lang/StringBuilder")) :: ws) ({ frames := 5, cells := 1, slots := 70, locals := 76 } : Room)) (fun a U => a = #[(.ref a1), (.ref a2)] ∧ Z.Warmed39 U.vm ∧ U.heap = h0) (fun _ _ _ _ _ => True) (fun _ U o U' => ∃ v L, o = .returned v ∧ Q_rmSA_34 Z a1 a2 cn z c2 t1 k1 L1 t2 k2 L2 L3 L4 zc h0 n0 v U'.heap L ∧ FrameEnd U o U' L ({ frames := 5, cells := 1, slots := 70, locals := 76 } : Room).cells ({ frames := 5, cells := 1, slots := 70, locals := 76 } : Room).slots) := by
  refine MetFree.of_bodySF (plainFor_of_name pn_2) hisR ?_
  intro p e s m args below meth c s₁ Bd hml0 hP hK
  obtain ⟨rfl, hZ, hh⟩ := hP
  have hx := Bd.exec
  have hby := Bd.bytes
  have hml : c.maxLocals = 2 := hml0
  have hown : s.vm.findClass "java/lang/StringBuilder" = some m.cls := findClass_of_methodNamed Bd.named
  have hnm := (name_of_methodNamed Bd.named Bd.method).1
  have X0 : Stand p l e ({ frames := 5, cells := 1, slots := 70, locals := 76 } : Room) s m #[(.ref a1), (.ref a2)] below meth c s₁ [] 0 0 := Stand.of_body Bd
  have e0 : s₁.heap = h0 := by rw [← hh, Bd.state]; rfl
  have N0 := Fr.nil n0
  have pre0 : ∀ t, Steps p.tables e below (s₁.setTop (mkF m 0 #[.val (.ref a1), .val (.ref a2)] [])) t → Steps p.tables e below (s₁.setTop (entryFrame m #[(.ref a1), (.ref a2)] 2)) t := fun t k => castTop (ef_2 m a1 a2) k
  obtain ⟨_, _, ⟨T1, LL1, kk1, nn1⟩, -, X1, ⟨Lc1, hQ1, l1, y1, z1⟩, st1⟩ := superBack X0 hx hZ (y := (⟨"java/lang/AbstractStringBuilder", "append", "(Ljava/lang/String;)Ljava/lang/AbstractStringBuilder;"⟩ : MethodName)) hown (own_t hw 135 rfl) (own_same (own_t hw 136 rfl) (own_t hw 150 rfl) rfl (by decide)) (own_t hw 136 rfl) (own_t hw 137 rfl) (by decide) (backOf (W := 0) (rmAA_34 l Z a0 hw [] a1 a2 cn z c2 t1 k1 L1 t2 k2 L2 L3 L4 zc h0 n0 Z0 E_a1 F_value_a1 F_coder_a1 F_count_a1 g_a1 V_t1 E_a2 F_value_a2 F_coder_a2 V_t2 S_COMPACT_STRINGS_ (hzc) (hL) (hmx) (hgt) (hc2) (hpos) (hz) (h5) (hl3) (hL4)) hZ (own_t hw 139 rfl) (own_t hw 121 rfl) (by decide) (by decide)) e0 (Ins.self E_a1) (g := (mkF m 2 #[.val (.ref a1), .val (.ref a2)] [(.ref a2), (.ref a1)])) rfl (by rw [hml]; rfl) (own_t hw 139 rfl) (argsL := [(.ref a2)]) (rest := []) (lenOf pd_6 rfl) rfl (by show 2 * 0 + _ ≤ _; exact Nat.le_of_eq rfl) (hb hby d67_7_2) (fun _ _ => ⟨rfl, e0, (by decide : 0 + 1 ≤ _), (by decide : 0 + 70 ≤ _)⟩)
  dsimp only [Pt.U, Pt.locs, Pt.cells, Pt.slots] at X1 l1 y1 z1 st1 hQ1
  subst l1 y1 z1
  obtain ⟨r_1, kr_1, rfl, N1q, K1, g_r_1, sq_r_1, p1_0, p1_1, p1_2, p1_3⟩ := hQ1
  have N1 := Fr.app N0 N1q
  have sz_r_1 : h0.size ≤ r_1 := Nat.le_trans (Keep.refl h0 [a1]).1 sq_r_1
  have Q1 : Keep h0 T1.heap [a1] := (Keep.refl h0 [a1]).trans K1 (allS (Or.inl (List.mem_of_getElem? (i := 0) rfl)) all0)
  obtain ⟨fs, hr, hrun, hended, hW, hsame⟩ := X1.leave (v := some (.ref a1)) (fun h => by rw [Bd.returns] at h; cases h)
  refine ⟨_, _, pre0 _ ?_, hrun, hended, _, _, rfl, ?_, ⟨_, rfl⟩, hW, hsame.mono (by decide) (by decide)⟩
  · show Steps p.tables e below (s₁.setTop (mkF m 0 #[.val (.ref a1), .val (.ref a2)] [])) _
    refine XS.aloadN X0.here hx rfl (hb hby d67_7_0) rfl rfl ?_
    refine XS.aloadN X0.here hx rfl (hb hby d67_7_1) rfl rfl ?_
    refine st1.trans ?_
    show Steps p.tables e below (T1.setTop (mkF m 5 #[.val (.ref a1), .val (.ref a2)] [(.ref a1)])) _
    refine XS.pop X1.here hx rfl (hb hby d67_7_5) rfl rfl ?_
    refine XS.aloadN X1.here hx rfl (hb hby d67_7_6) rfl rfl ?_
    exact X1.areturnOut hx rfl Bd.returns rfl (hb hby d67_7_7) hr
  · show Q_rmSA_34 Z a1 a2 cn z c2 t1 k1 L1 t2 k2 L2 L3 L4 zc h0 n0 _ T1.heap _
    exact ⟨r_1, kr_1, rfl, N1, Q1, g_r_1, sz_r_1, p1_0, p1_1, p1_2, p1_3⟩
theorem d68_2_0 : decode jdk_68_method_2_code 0 = .ok (.aload_n 0, 1) := by decide +kernel
theorem d68_2_1 : decode jdk_68_method_2_code 1 = .ok (.invokespecial 3, 3) := by decide +kernel
theorem d68_2_4 : decode jdk_68_method_2_code 4 = .ok (.getstatic 18, 3) := by decide +kernel
theorem d68_2_7 : decode jdk_68_method_2_code 7 = .ok (.ifCond .eq 18, 3) := by decide +kernel
theorem d68_2_10 : decode jdk_68_method_2_code 10 = .ok (.aload_n 0, 1) := by decide +kernel
theorem d68_2_11 : decode jdk_68_method_2_code 11 = .ok (.iload_n 1, 1) := by decide +kernel
theorem d68_2_12 : decode jdk_68_method_2_code 12 = .ok (.newarray .byte, 2) := by decide +kernel
theorem d68_2_14 : decode jdk_68_method_2_code 14 = .ok (.putfield 15, 3) := by decide +kernel
theorem d68_2_17 : decode jdk_68_method_2_code 17 = .ok (.aload_n 0, 1) := by decide +kernel
theorem d68_2_18 : decode jdk_68_method_2_code 18 = .ok (.iconst 0, 1) := by decide +kernel
theorem d68_2_19 : decode jdk_68_method_2_code 19 = .ok (.putfield 22, 3) := by decide +kernel
theorem d68_2_22 : decode jdk_68_method_2_code 22 = .ok (.goto 16, 3) := by decide +kernel
theorem d68_2_38 : decode jdk_68_method_2_code 38 = .ok (.return_, 1) := by decide +kernel
def Q_rmAI (Z : State) (a1 : Addr) (zc : Int32) (h0 : Heap) (n0 : Nat) (v : Option Value) (h : Heap) (L : List Loc) : Prop := ∃ (t : Addr) (kt : ClassId), v = none ∧ Fr n0 L ∧ Keep h0 h [a1] ∧ n0 ≤ t ∧ h0.size ≤ t ∧ Fld Z h a1 "java/lang/AbstractStringBuilder" "value" "[B" (.ref t) ∧ Fld Z h a1 "java/lang/AbstractStringBuilder" "coder" "B" (.int 0) ∧ Fld Z h a1 "java/lang/AbstractStringBuilder" "count" "I" (.int 0) ∧ Arv Z h t kt .byte (16 : Int32) [oz, oz, oz, oz, oz, oz, oz, oz, oz, oz, oz, oz, oz, oz, oz, oz] (.int 0)
theorem ef_9 (m : MethodId) (x0 : Addr) (x1 : Int32) : entryFrame m #[(.ref x0), (.int x1)] 2 = mkF m 0 #[.val (.ref x0), .val (.int x1)] [] := by first | (simp [entryFrame, mkF, argsToLocals, Value.category]; done) | rfl
set_option maxRecDepth 65536 in
set_option maxHeartbeats 40000000 in
theorem rmAI (l : Launch) (Z : State) (a0 : Array Value) (hw : ∀ d ∈ tables_1, d.before a0 Z = true) (ws : List Jvm.Cond) (a1 : Addr) (zc : Int32) (h0 : Heap) (n0 : Nat) (Z0 : n0 ≤ h0.size) (E_a1 : Exa Z h0 a1 "java/lang/StringBuilder") (F_value_a1 : Fld Z h0 a1 "java/lang/AbstractStringBuilder" "value" "[B" .null) (F_coder_a1 : Fld Z h0 a1 "java/lang/AbstractStringBuilder" "coder" "B" (.int 0)) (F_count_a1 : Fld Z h0 a1 "java/lang/AbstractStringBuilder" "count" "I" (.int 0)) (g_a1 : n0 ≤ a1) (S_COMPACT_STRINGS_ : Sta Z h0 "java/lang/String" "COMPACT_STRINGS" "Z" (.int zc)) (hzc : ¬ zc = 0) :
    MetFree l (⟨"java/lang/AbstractStringBuilder", "<init>", "(I)V"⟩ : MethodName) (head1 (Jvm.Cond.code (⟨"java/lang/AbstractStringBuilder", "<init>", "(I)V"⟩ : MethodName) jdk_68_method_2_code 2 none :: ws) ({ frames := 1, cells := 1, slots := 16, locals := 12 } : Room)) (fun a U => a = #[(.ref a1), (.int 16)] ∧ Z.Warmed39 U.vm ∧ U.heap = h0) (fun _ _ _ _ _ => True) (fun _ U o U' => ∃ v L, o = .returned v ∧ Q_rmAI Z a1 zc h0 n0 v U'.heap L ∧ FrameEnd U o U' L ({ frames := 1, cells := 1, slots := 16, locals := 12 } : Room).cells ({ frames := 1, cells := 1, slots := 16, locals := 12 } : Room).slots) := by
  refine MetFree.of_bodySF (plainFor_of_name pn_1) hisR ?_
  intro p e s m args below meth c s₁ Bd hml0 hP hK
  obtain ⟨rfl, hZ, hh⟩ := hP
  have hx := Bd.exec
  have hby := Bd.bytes
  have hml : c.maxLocals = 2 := hml0
  have hown : s.vm.findClass "java/lang/AbstractStringBuilder" = some m.cls := findClass_of_methodNamed Bd.named
  have hnm := (name_of_methodNamed Bd.named Bd.method).1
  have X0 : Stand p l e ({ frames := 1, cells := 1, slots := 16, locals := 12 } : Room) s m #[(.ref a1), (.int 16)] below meth c s₁ [] 0 0 := Stand.of_body Bd
  have e0 : s₁.heap = h0 := by rw [← hh, Bd.state]; rfl
  have N0 := Fr.nil n0
  have pre0 : ∀ t, Steps p.tables e below (s₁.setTop (mkF m 0 #[.val (.ref a1), .val (.int 16)] [])) t → Steps p.tables e below (s₁.setTop (entryFrame m #[(.ref a1), (.int 16)] 2)) t := fun t k => castTop (ef_9 m a1 (16 : Int32)) k
  obtain ⟨T1, X1, e1, st1⟩ := initO X0 hx hZ hown (own_t hw 123 rfl) (own_t hw 12 rfl) (own_t hw 13 rfl) e0 (g := (mkF m 1 #[.val (.ref a1), .val (.int 16)] [(.ref a1)])) rfl (by rw [hml]; rfl) rfl (hb hby d68_2_1) (by decide) (W := 0) (by show 2 * 0 + _ ≤ _; exact Nat.le_of_eq rfl) (by decide)
  obtain ⟨T2, X2, e2, st2⟩ := getS2 X1 hx hZ hown (host := "") (Or.inl (own_t hw 124 rfl)) Via.refl e1 S_COMPACT_STRINGS_ (g := (mkF m 4 #[.val (.ref a1), .val (.int 16)] [])) rfl (hb hby d68_2_4)
  obtain ⟨T3, h3, k3, X3, e3, E3, A3, st3⟩ := newP X2 hx hZ (own_t hw 19 rfl) e2 (g := (mkF m 12 #[.val (.ref a1), .val (.int 16)] [(.int 16), (.ref a1)])) rfl (hb hby d68_2_12) rfl (by decide) (cap := 16) (by decide) (by decide) (by decide) (by decide)
  obtain ⟨b3, gg3⟩ : ∃ z, z = h0.size := ⟨_, rfl⟩
  rw [← gg3] at A3 st3
  have g_b3 : n0 ≤ b3 := Nat.le_trans Z0 (Nat.le_of_eq gg3.symm)
  have sz_b3 : h0.size ≤ b3 := Nat.le_trans (Keep.refl h0 [a1]).1 (Nat.le_of_eq gg3.symm)
  have Q3 : Keep h0 h3 [a1] := (Keep.refl h0 [a1]).ext E3
  have V_b3 : Arv Z h3 b3 k3 .byte (16 : Int32) [oz, oz, oz, oz, oz, oz, oz, oz, oz, oz, oz, oz, oz, oz, oz, oz] (.int 0) := (Arv.new A3 (by decide)).pad (pad_rep [] (.int 0) 16)
  obtain ⟨T4, h4, X4, e4, W4, st4⟩ := putF X3 hx hZ hown (host := "") (Or.inl (own_t hw 125 rfl)) Via.refl e3 (F_value_a1.ext E3) (E_a1.ext E3) (Or.inl (own_t hw 126 rfl)) (own_t hw 112 rfl) (ty := (.array .byte)) (by decide) rfl rfl (g := (mkF m 14 #[.val (.ref a1), .val (.int 16)] [(.ref b3), (.ref a1)])) rfl rfl (hb hby d68_2_14)
  have Fw4 := (F_value_a1.ext E3).same W4
  have Q4 : Keep h0 h4 [a1] := Q3.wr W4 (Or.inl (List.mem_of_getElem? (i := 0) rfl))
  have N4 := Fr.snoc X4 N0 g_a1
  obtain ⟨T5, h5, X5, e5, W5, st5⟩ := putFN X4 hx hZ hown (own_t hw 127 rfl) Via.refl e4 ((F_coder_a1.ext E3).other W4 (Or.inr (slot_ne (Or.inl (own_t hw 128 rfl)) (Or.inl (own_t hw 126 rfl)) (by decide) (t := .byte) (t' := (.array .byte)) (by decide) (by decide)))) ((E_a1.ext E3).wr W4) (Or.inl (own_t hw 128 rfl)) (own_t hw 112 rfl) (ty := .byte) (v' := (.int 0)) (by decide) rfl (by decide) (g := (mkF m 19 #[.val (.ref a1), .val (.int 16)] [(.int 0), (.ref a1)])) rfl rfl (hb hby d68_2_19)
  have Fw5 := ((F_coder_a1.ext E3).other W4 (Or.inr (slot_ne (Or.inl (own_t hw 128 rfl)) (Or.inl (own_t hw 126 rfl)) (by decide) (t := .byte) (t' := (.array .byte)) (by decide) (by decide)))).same W5
  have Q5 : Keep h0 h5 [a1] := Q4.wr W5 (Or.inl (List.mem_of_getElem? (i := 0) rfl))
  have N5 := Fr.snoc X5 N4 g_a1
  have nq0 : b3 ≠ a1 := (Ne.symm (Nat.ne_of_lt (Nat.lt_of_lt_of_le E_a1.lt (Nat.le_of_eq gg3.symm))))
  obtain ⟨fs, hr, hrun, hended, hW, hsame⟩ := X5.leave (v := none) (fun _ => rfl)
  refine ⟨_, _, pre0 _ ?_, hrun, hended, _, _, rfl, ?_, ⟨_, rfl⟩, hW, hsame.mono (by decide) (by decide)⟩
  · show Steps p.tables e below (s₁.setTop (mkF m 0 #[.val (.ref a1), .val (.int 16)] [])) _
    refine XS.aloadN X0.here hx rfl (hb hby d68_2_0) rfl rfl ?_
    refine st1 _ ?_
    show Steps p.tables e below (T1.setTop (mkF m 4 #[.val (.ref a1), .val (.int 16)] [])) _
    refine st2 _ ?_
    show Steps p.tables e below (T2.setTop (mkF m 7 #[.val (.ref a1), .val (.int 16)] [(.int zc)])) _
    refine XS.ifNo X2.here hx rfl (hb hby d68_2_7) rfl ((if0 _ _).trans (feq hzc).1) ?_
    show Steps p.tables e below (T2.setTop (mkF m 10 #[.val (.ref a1), .val (.int 16)] [])) _
    refine XS.aloadN X2.here hx rfl (hb hby d68_2_10) rfl rfl ?_
    refine XS.iloadN X2.here hx rfl (hb hby d68_2_11) rfl ?_
    refine st3 _ ?_
    show Steps p.tables e below (T3.setTop (mkF m 14 #[.val (.ref a1), .val (.int 16)] [(.ref b3), (.ref a1)])) _
    refine st4 _ ?_
    show Steps p.tables e below (T4.setTop (mkF m 17 #[.val (.ref a1), .val (.int 16)] [])) _
    refine XS.aloadN X4.here hx rfl (hb hby d68_2_17) rfl rfl ?_
    refine XS.iconst X4.here hx rfl (hb hby d68_2_18) ?_
    refine st5 _ ?_
    show Steps p.tables e below (T5.setTop (mkF m 22 #[.val (.ref a1), .val (.int 16)] [])) _
    refine XS.goto X5.here hx rfl (pc0 := 22) (pc' := 38) rfl (hb hby d68_2_22) (by decide) (by decide) ?_
    show Steps p.tables e below (T5.setTop (mkF m 38 #[.val (.ref a1), .val (.int 16)] [])) _
    exact X5.returnOut hx Bd.returns (hb hby d68_2_38) hr
  · show Q_rmAI Z a1 zc h0 n0 _ T5.heap _
    rw [e5]
    exact ⟨b3, k3, rfl, N5, Q5, g_b3, sz_b3, (Fw4.other W5 (Or.inr (slot_ne (Or.inl (own_t hw 126 rfl)) (Or.inl (own_t hw 128 rfl)) (by decide) (t := (.array .byte)) (t' := .byte) (by decide) (by decide)))), Fw5, (((F_count_a1.ext E3).other W4 (Or.inr (slot_ne (Or.inl (own_t hw 146 rfl)) (Or.inl (own_t hw 126 rfl)) (by decide) (t := .int) (t' := (.array .byte)) (by decide) (by decide)))).other W5 (Or.inr (slot_ne (Or.inl (own_t hw 146 rfl)) (Or.inl (own_t hw 128 rfl)) (by decide) (t := .int) (t' := .byte) (by decide) (by decide)))), ((V_b3.other W4 nq0).other W5 nq0)⟩
theorem d67_1_0 : decode jdk_67_method_1_code 0 = .ok (.aload_n 0, 1) := by decide +kernel
theorem d67_1_1 : decode jdk_67_method_1_code 1 = .ok (.bipush 16, 2) := by decide +kernel
theorem d67_1_3 : decode jdk_67_method_1_code 3 = .ok (.invokespecial 1, 3) := by decide +kernel
theorem d67_1_6 : decode jdk_67_method_1_code 6 = .ok (.return_, 1) := by decide +kernel
def Q_rmSI (Z : State) (a1 : Addr) (zc : Int32) (h0 : Heap) (n0 : Nat) (v : Option Value) (h : Heap) (L : List Loc) : Prop := ∃ (t : Addr) (kt : ClassId), v = none ∧ Fr n0 L ∧ Keep h0 h [a1] ∧ n0 ≤ t ∧ h0.size ≤ t ∧ Fld Z h a1 "java/lang/AbstractStringBuilder" "value" "[B" (.ref t) ∧ Fld Z h a1 "java/lang/AbstractStringBuilder" "coder" "B" (.int 0) ∧ Fld Z h a1 "java/lang/AbstractStringBuilder" "count" "I" (.int 0) ∧ Arv Z h t kt .byte (16 : Int32) [oz, oz, oz, oz, oz, oz, oz, oz, oz, oz, oz, oz, oz, oz, oz, oz] (.int 0)
set_option maxRecDepth 65536 in
set_option maxHeartbeats 40000000 in
theorem rmSI (l : Launch) (Z : State) (a0 : Array Value) (hw : ∀ d ∈ tables_1, d.before a0 Z = true) (ws : List Jvm.Cond) (a1 : Addr) (zc : Int32) (h0 : Heap) (n0 : Nat) (Z0 : n0 ≤ h0.size) (E_a1 : Exa Z h0 a1 "java/lang/StringBuilder") (F_value_a1 : Fld Z h0 a1 "java/lang/AbstractStringBuilder" "value" "[B" .null) (F_coder_a1 : Fld Z h0 a1 "java/lang/AbstractStringBuilder" "coder" "B" (.int 0)) (F_count_a1 : Fld Z h0 a1 "java/lang/AbstractStringBuilder" "count" "I" (.int 0)) (g_a1 : n0 ≤ a1) (S_COMPACT_STRINGS_ : Sta Z h0 "java/lang/String" "COMPACT_STRINGS" "Z" (.int zc)) (hzc : ¬ zc = 0) :
    MetFree l (⟨"java/lang/StringBuilder", "<init>", "()V"⟩ : MethodName) (head1 (Jvm.Cond.code (⟨"java/lang/StringBuilder", "<init>", "()V"⟩ : MethodName) jdk_67_method_1_code 1 none :: ws) ({ frames := 2, cells := 1, slots := 16, locals := 25 } : Room)) (fun a U => a = #[(.ref a1)] ∧ Z.Warmed39 U.vm ∧ U.heap = h0) (fun _ _ _ _ _ => True) (fun _ U o U' => ∃ v L, o = .returned v ∧ Q_rmSI Z a1 zc h0 n0 v U'.heap L ∧ FrameEnd U o U' L ({ frames := 2, cells := 1, slots := 16, locals := 25 } : Room).cells ({ frames := 2, cells := 1, slots := 16, locals := 25 } : Room).slots) := by
  refine MetFree.of_bodySF (plainFor_of_name pn_2) hisR ?_
  intro p e s m args below meth c s₁ Bd hml0 hP hK
  obtain ⟨rfl, hZ, hh⟩ := hP
  have hx := Bd.exec
  have hby := Bd.bytes
  have hml : c.maxLocals = 1 := hml0
  have hown : s.vm.findClass "java/lang/StringBuilder" = some m.cls := findClass_of_methodNamed Bd.named
  have hnm := (name_of_methodNamed Bd.named Bd.method).1
  have X0 : Stand p l e ({ frames := 2, cells := 1, slots := 16, locals := 25 } : Room) s m #[(.ref a1)] below meth c s₁ [] 0 0 := Stand.of_body Bd
  have e0 : s₁.heap = h0 := by rw [← hh, Bd.state]; rfl
  have N0 := Fr.nil n0
  have pre0 : ∀ t, Steps p.tables e below (s₁.setTop (mkF m 0 #[.val (.ref a1)] [])) t → Steps p.tables e below (s₁.setTop (entryFrame m #[(.ref a1)] 1)) t := fun t k => castTop (ef_0 m a1) k
  obtain ⟨_, _, ⟨T1, LL1, kk1, nn1⟩, -, X1, ⟨Lc1, hQ1, l1, y1, z1⟩, st1⟩ := X0.specialBack hx (y := (⟨"java/lang/AbstractStringBuilder", "<init>", "(I)V"⟩ : MethodName)) rfl hown (mvT hZ (own_t hw 117 rfl)) (mvT hZ (own_t hw 118 rfl)) (mvT hZ (own_t hw 122 rfl)) (by decide) (backOf (W := 0) (rmAI l Z a0 hw [] a1 zc h0 n0 Z0 E_a1 F_value_a1 F_coder_a1 F_count_a1 g_a1 S_COMPACT_STRINGS_ (hzc)) hZ (own_t hw 122 rfl) (own_t hw 121 rfl) (by decide) (by decide)) (g := (mkF m 3 #[.val (.ref a1)] [(.int 16), (.ref a1)])) rfl (by rw [hml]; rfl) (Steps.refl _) (a := a1) (argsL := [(.int 16)]) (rest := []) (lenOf pd_4 rfl) rfl (by show 2 * 0 + _ ≤ _; exact Nat.le_of_eq rfl) (hb hby d67_1_3) (fun _ _ => ⟨rfl, e0, (by decide : 0 + 1 ≤ _), (by decide : 0 + 16 ≤ _)⟩)
  dsimp only [Pt.U, Pt.locs, Pt.cells, Pt.slots] at X1 l1 y1 z1 st1 hQ1
  subst l1 y1 z1
  obtain ⟨t_1, kt_1, rfl, N1q, K1, g_t_1, sq_t_1, p1_0, p1_1, p1_2, p1_3⟩ := hQ1
  have N1 := Fr.app N0 N1q
  have sz_t_1 : h0.size ≤ t_1 := Nat.le_trans (Keep.refl h0 [a1]).1 sq_t_1
  have Q1 : Keep h0 T1.heap [a1] := (Keep.refl h0 [a1]).trans K1 (allS (Or.inl (List.mem_of_getElem? (i := 0) rfl)) all0)
  obtain ⟨fs, hr, hrun, hended, hW, hsame⟩ := X1.leave (v := none) (fun _ => rfl)
  refine ⟨_, _, pre0 _ ?_, hrun, hended, _, _, rfl, ?_, ⟨_, rfl⟩, hW, hsame.mono (by decide) (by decide)⟩
  · show Steps p.tables e below (s₁.setTop (mkF m 0 #[.val (.ref a1)] [])) _
    refine XS.aloadN X0.here hx rfl (hb hby d67_1_0) rfl rfl ?_
    refine XS.bipush X0.here hx rfl (hb hby d67_1_1) ?_
    refine st1.trans ?_
    show Steps p.tables e below (T1.setTop (mkF m 6 #[.val (.ref a1)] [])) _
    exact X1.returnOut hx Bd.returns (hb hby d67_1_6) hr
  · show Q_rmSI Z a1 zc h0 n0 _ T1.heap _
    exact ⟨t_1, kt_1, rfl, N1, Q1, g_t_1, sz_t_1, p1_0, p1_1, p1_2, p1_3⟩
theorem d68_64_0 : decode jdk_68_method_64_code 0 = .ok (.aload_n 0, 1) := by decide +kernel
theorem d68_64_1 : decode jdk_68_method_64_code 1 = .ok (.getfield 15, 3) := by decide +kernel
theorem d68_64_4 : decode jdk_68_method_64_code 4 = .ok (.areturn, 1) := by decide +kernel
def Q_rmGV (Z : State) (a1 : Addr) (t1 : Addr) (h0 : Heap) (n0 : Nat) (v : Option Value) (h : Heap) (L : List Loc) : Prop := v = some (.ref t1) ∧ Fr n0 L ∧ h = h0
set_option maxRecDepth 65536 in
set_option maxHeartbeats 40000000 in
theorem rmGV (l : Launch) (Z : State) (a0 : Array Value) (hw : ∀ d ∈ tables_1, d.before a0 Z = true) (ws : List Jvm.Cond) (a1 : Addr) (t1 : Addr) (h0 : Heap) (n0 : Nat) (Z0 : n0 ≤ h0.size) (F_value_a1 : Fld Z h0 a1 "java/lang/AbstractStringBuilder" "value" "[B" (.ref t1)) :
    MetFree l (⟨"java/lang/AbstractStringBuilder", "getValue", "()[B"⟩ : MethodName) (head1 (Jvm.Cond.code (⟨"java/lang/AbstractStringBuilder", "getValue", "()[B"⟩ : MethodName) jdk_68_method_64_code 1 (some (.array .byte)) :: ws) ({ frames := 0, cells := 0, slots := 0, locals := 0 } : Room)) (fun a U => a = #[(.ref a1)] ∧ Z.Warmed39 U.vm ∧ U.heap = h0) (fun _ _ _ _ _ => True) (fun _ U o U' => ∃ v L, o = .returned v ∧ Q_rmGV Z a1 t1 h0 n0 v U'.heap L ∧ FrameEnd U o U' L ({ frames := 0, cells := 0, slots := 0, locals := 0 } : Room).cells ({ frames := 0, cells := 0, slots := 0, locals := 0 } : Room).slots) := by
  refine MetFree.of_bodySF (plainFor_of_name pn_1) hisR ?_
  intro p e s m args below meth c s₁ Bd hml0 hP hK
  obtain ⟨rfl, hZ, hh⟩ := hP
  have hx := Bd.exec
  have hby := Bd.bytes
  have hml : c.maxLocals = 1 := hml0
  have hown : s.vm.findClass "java/lang/AbstractStringBuilder" = some m.cls := findClass_of_methodNamed Bd.named
  have hnm := (name_of_methodNamed Bd.named Bd.method).1
  have X0 : Stand p l e ({ frames := 0, cells := 0, slots := 0, locals := 0 } : Room) s m #[(.ref a1)] below meth c s₁ [] 0 0 := Stand.of_body Bd
  have e0 : s₁.heap = h0 := by rw [← hh, Bd.state]; rfl
  have N0 := Fr.nil n0
  have pre0 : ∀ t, Steps p.tables e below (s₁.setTop (mkF m 0 #[.val (.ref a1)] [])) t → Steps p.tables e below (s₁.setTop (entryFrame m #[(.ref a1)] 1)) t := fun t k => castTop (ef_0 m a1) k
  obtain ⟨T1, X1, e1, st1⟩ := getF X0 hx hZ hown (host := "") (Or.inl (own_t hw 125 rfl)) Via.refl e0 F_value_a1 (g := (mkF m 1 #[.val (.ref a1)] [(.ref a1)])) rfl rfl (hb hby d68_64_1)
  obtain ⟨fs, hr, hrun, hended, hW, hsame⟩ := X1.leave (v := some (.ref t1)) (fun h => by rw [Bd.returns] at h; cases h)
  refine ⟨_, _, pre0 _ ?_, hrun, hended, _, _, rfl, ?_, ⟨_, rfl⟩, hW, hsame.mono (by decide) (by decide)⟩
  · show Steps p.tables e below (s₁.setTop (mkF m 0 #[.val (.ref a1)] [])) _
    refine XS.aloadN X0.here hx rfl (hb hby d68_64_0) rfl rfl ?_
    refine st1 _ ?_
    show Steps p.tables e below (T1.setTop (mkF m 4 #[.val (.ref a1)] [(.ref t1)])) _
    exact X1.areturnOut hx rfl Bd.returns rfl (hb hby d68_64_4) hr
  · show Q_rmGV Z a1 t1 h0 n0 _ T1.heap _
    rw [e1]
    exact ⟨rfl, N0, rfl⟩
theorem d68_6_0 : decode jdk_68_method_6_code 0 = .ok (.aload_n 0, 1) := by decide +kernel
theorem d68_6_1 : decode jdk_68_method_6_code 1 = .ok (.getfield 79, 3) := by decide +kernel
theorem d68_6_4 : decode jdk_68_method_6_code 4 = .ok (.ireturn, 1) := by decide +kernel
def Q_rmAL (Z : State) (a1 : Addr) (cn : Int32) (h0 : Heap) (n0 : Nat) (v : Option Value) (h : Heap) (L : List Loc) : Prop := v = some (.int cn) ∧ Fr n0 L ∧ h = h0
set_option maxRecDepth 65536 in
set_option maxHeartbeats 40000000 in
theorem rmAL (l : Launch) (Z : State) (a0 : Array Value) (hw : ∀ d ∈ tables_1, d.before a0 Z = true) (ws : List Jvm.Cond) (a1 : Addr) (cn : Int32) (h0 : Heap) (n0 : Nat) (Z0 : n0 ≤ h0.size) (F_count_a1 : Fld Z h0 a1 "java/lang/AbstractStringBuilder" "count" "I" (.int cn)) :
    MetFree l (⟨"java/lang/AbstractStringBuilder", "length", "()I"⟩ : MethodName) (head1 (Jvm.Cond.code (⟨"java/lang/AbstractStringBuilder", "length", "()I"⟩ : MethodName) jdk_68_method_6_code 1 (some .int) :: ws) ({ frames := 0, cells := 0, slots := 0, locals := 0 } : Room)) (fun a U => a = #[(.ref a1)] ∧ Z.Warmed39 U.vm ∧ U.heap = h0) (fun _ _ _ _ _ => True) (fun _ U o U' => ∃ v L, o = .returned v ∧ Q_rmAL Z a1 cn h0 n0 v U'.heap L ∧ FrameEnd U o U' L ({ frames := 0, cells := 0, slots := 0, locals := 0 } : Room).cells ({ frames := 0, cells := 0, slots := 0, locals := 0 } : Room).slots) := by
  refine MetFree.of_bodySF (plainFor_of_name pn_1) hisR ?_
  intro p e s m args below meth c s₁ Bd hml0 hP hK
  obtain ⟨rfl, hZ, hh⟩ := hP
  have hx := Bd.exec
  have hby := Bd.bytes
  have hml : c.maxLocals = 1 := hml0
  have hown : s.vm.findClass "java/lang/AbstractStringBuilder" = some m.cls := findClass_of_methodNamed Bd.named
  have hnm := (name_of_methodNamed Bd.named Bd.method).1
  have X0 : Stand p l e ({ frames := 0, cells := 0, slots := 0, locals := 0 } : Room) s m #[(.ref a1)] below meth c s₁ [] 0 0 := Stand.of_body Bd
  have e0 : s₁.heap = h0 := by rw [← hh, Bd.state]; rfl
  have N0 := Fr.nil n0
  have pre0 : ∀ t, Steps p.tables e below (s₁.setTop (mkF m 0 #[.val (.ref a1)] [])) t → Steps p.tables e below (s₁.setTop (entryFrame m #[(.ref a1)] 1)) t := fun t k => castTop (ef_0 m a1) k
  obtain ⟨T1, X1, e1, st1⟩ := getF X0 hx hZ hown (host := "") (Or.inl (own_t hw 145 rfl)) Via.refl e0 F_count_a1 (g := (mkF m 1 #[.val (.ref a1)] [(.ref a1)])) rfl rfl (hb hby d68_6_1)
  obtain ⟨fs, hr, hrun, hended, hW, hsame⟩ := X1.leave (v := some (.int cn)) (fun h => by rw [Bd.returns] at h; cases h)
  refine ⟨_, _, pre0 _ ?_, hrun, hended, _, _, rfl, ?_, ⟨_, rfl⟩, hW, hsame.mono (by decide) (by decide)⟩
  · show Steps p.tables e below (s₁.setTop (mkF m 0 #[.val (.ref a1)] [])) _
    refine XS.aloadN X0.here hx rfl (hb hby d68_6_0) rfl rfl ?_
    refine st1 _ ?_
    show Steps p.tables e below (T1.setTop (mkF m 4 #[.val (.ref a1)] [(.int cn)])) _
    exact retI X1 hx Bd.returns (hb hby d68_6_4) hr
  · show Q_rmAL Z a1 cn h0 n0 _ T1.heap _
    rw [e1]
    exact ⟨rfl, N0, rfl⟩
theorem d67_93_0 : decode jdk_67_method_93_code 0 = .ok (.aload_n 0, 1) := by decide +kernel
theorem d67_93_1 : decode jdk_67_method_93_code 1 = .ok (.invokespecial 343, 3) := by decide +kernel
theorem d67_93_4 : decode jdk_67_method_93_code 4 = .ok (.ireturn, 1) := by decide +kernel
def Q_rmBL (Z : State) (a1 : Addr) (cn : Int32) (h0 : Heap) (n0 : Nat) (v : Option Value) (h : Heap) (L : List Loc) : Prop := v = some (.int cn) ∧ Fr n0 L ∧ h = h0
set_option maxRecDepth 65536 in
set_option maxHeartbeats 40000000 in
theorem rmBL (l : Launch) (Z : State) (a0 : Array Value) (hw : ∀ d ∈ tables_1, d.before a0 Z = true) (ws : List Jvm.Cond) (a1 : Addr) (cn : Int32) (h0 : Heap) (n0 : Nat) (Z0 : n0 ≤ h0.size) (E_a1 : Exa Z h0 a1 "java/lang/StringBuilder") (F_count_a1 : Fld Z h0 a1 "java/lang/AbstractStringBuilder" "count" "I" (.int cn)) :
    MetFree l (⟨"java/lang/StringBuilder", "length", "()I"⟩ : MethodName) (head1 (Jvm.Cond.code (⟨"java/lang/StringBuilder", "length", "()I"⟩ : MethodName) jdk_67_method_93_code 1 (some .int) :: ws) ({ frames := 1, cells := 0, slots := 0, locals := 12 } : Room)) (fun a U => a = #[(.ref a1)] ∧ Z.Warmed39 U.vm ∧ U.heap = h0) (fun _ _ _ _ _ => True) (fun _ U o U' => ∃ v L, o = .returned v ∧ Q_rmBL Z a1 cn h0 n0 v U'.heap L ∧ FrameEnd U o U' L ({ frames := 1, cells := 0, slots := 0, locals := 12 } : Room).cells ({ frames := 1, cells := 0, slots := 0, locals := 12 } : Room).slots) := by
  refine MetFree.of_bodySF (plainFor_of_name pn_2) hisR ?_
  intro p e s m args below meth c s₁ Bd hml0 hP hK
  obtain ⟨rfl, hZ, hh⟩ := hP
  have hx := Bd.exec
  have hby := Bd.bytes
  have hml : c.maxLocals = 1 := hml0
  have hown : s.vm.findClass "java/lang/StringBuilder" = some m.cls := findClass_of_methodNamed Bd.named
  have hnm := (name_of_methodNamed Bd.named Bd.method).1
  have X0 : Stand p l e ({ frames := 1, cells := 0, slots := 0, locals := 12 } : Room) s m #[(.ref a1)] below meth c s₁ [] 0 0 := Stand.of_body Bd
  have e0 : s₁.heap = h0 := by rw [← hh, Bd.state]; rfl
  have N0 := Fr.nil n0
  have pre0 : ∀ t, Steps p.tables e below (s₁.setTop (mkF m 0 #[.val (.ref a1)] [])) t → Steps p.tables e below (s₁.setTop (entryFrame m #[(.ref a1)] 1)) t := fun t k => castTop (ef_0 m a1) k
  obtain ⟨_, _, ⟨T1, LL1, kk1, nn1⟩, -, X1, ⟨Lc1, hQ1, l1, y1, z1⟩, st1⟩ := superBack X0 hx hZ (y := (⟨"java/lang/AbstractStringBuilder", "length", "()I"⟩ : MethodName)) hown (own_t hw 220 rfl) (own_same (own_t hw 216 rfl) (own_t hw 150 rfl) rfl (by decide)) (own_t hw 216 rfl) (own_t hw 137 rfl) (by decide) (backOf (W := 0) (rmAL l Z a0 hw [] a1 cn h0 n0 Z0 F_count_a1) hZ (own_t hw 221 rfl) (own_t hw 121 rfl) (by decide) (by decide)) e0 (Ins.self E_a1) (g := (mkF m 1 #[.val (.ref a1)] [(.ref a1)])) rfl (by rw [hml]; rfl) (own_t hw 221 rfl) (argsL := []) (rest := []) (lenOf pd_3 rfl) rfl (by show 2 * 0 + _ ≤ _; exact Nat.le_of_eq rfl) (hb hby d67_93_1) (fun _ _ => ⟨rfl, e0, (by decide : 0 + 0 ≤ _), (by decide : 0 + 0 ≤ _)⟩)
  dsimp only [Pt.U, Pt.locs, Pt.cells, Pt.slots] at X1 l1 y1 z1 st1 hQ1
  subst l1 y1 z1
  obtain ⟨rfl, N1q, e1⟩ := hQ1
  have N1 := Fr.app N0 N1q
  obtain ⟨fs, hr, hrun, hended, hW, hsame⟩ := X1.leave (v := some (.int cn)) (fun h => by rw [Bd.returns] at h; cases h)
  refine ⟨_, _, pre0 _ ?_, hrun, hended, _, _, rfl, ?_, ⟨_, rfl⟩, hW, hsame.mono (by decide) (by decide)⟩
  · show Steps p.tables e below (s₁.setTop (mkF m 0 #[.val (.ref a1)] [])) _
    refine XS.aloadN X0.here hx rfl (hb hby d67_93_0) rfl rfl ?_
    refine st1.trans ?_
    show Steps p.tables e below (T1.setTop (mkF m 4 #[.val (.ref a1)] [(.int cn)])) _
    exact retI X1 hx Bd.returns (hb hby d67_93_4) hr
  · show Q_rmBL Z a1 cn h0 n0 _ T1.heap _
    rw [e1]
    exact ⟨rfl, N1, rfl⟩
theorem d68_68_0 : decode jdk_68_method_68_code 0 = .ok (.getstatic 18, 3) := by decide +kernel
theorem d68_68_3 : decode jdk_68_method_68_code 3 = .ok (.ifCond .eq 14, 3) := by decide +kernel
theorem d68_68_6 : decode jdk_68_method_68_code 6 = .ok (.aload_n 0, 1) := by decide +kernel
theorem d68_68_7 : decode jdk_68_method_68_code 7 = .ok (.getfield 22, 3) := by decide +kernel
theorem d68_68_10 : decode jdk_68_method_68_code 10 = .ok (.ifCond .ne 7, 3) := by decide +kernel
theorem d68_68_13 : decode jdk_68_method_68_code 13 = .ok (.iconst 1, 1) := by decide +kernel
theorem d68_68_14 : decode jdk_68_method_68_code 14 = .ok (.goto 4, 3) := by decide +kernel
theorem d68_68_18 : decode jdk_68_method_68_code 18 = .ok (.ireturn, 1) := by decide +kernel
def Q_rmLa (Z : State) (a1 : Addr) (zc : Int32) (h0 : Heap) (n0 : Nat) (v : Option Value) (h : Heap) (L : List Loc) : Prop := v = some (.int 1) ∧ Fr n0 L ∧ h = h0
set_option maxRecDepth 65536 in
set_option maxHeartbeats 40000000 in
theorem rmLa (l : Launch) (Z : State) (a0 : Array Value) (hw : ∀ d ∈ tables_1, d.before a0 Z = true) (ws : List Jvm.Cond) (a1 : Addr) (zc : Int32) (h0 : Heap) (n0 : Nat) (Z0 : n0 ≤ h0.size) (F_coder_a1 : Fld Z h0 a1 "java/lang/AbstractStringBuilder" "coder" "B" (.int 0)) (S_COMPACT_STRINGS_ : Sta Z h0 "java/lang/String" "COMPACT_STRINGS" "Z" (.int zc)) (hzc : ¬ zc = 0) :
    MetFree l (⟨"java/lang/AbstractStringBuilder", "isLatin1", "()Z"⟩ : MethodName) (head1 (Jvm.Cond.code (⟨"java/lang/AbstractStringBuilder", "isLatin1", "()Z"⟩ : MethodName) jdk_68_method_68_code 1 (some .boolean) :: ws) ({ frames := 0, cells := 0, slots := 0, locals := 0 } : Room)) (fun a U => a = #[(.ref a1)] ∧ Z.Warmed39 U.vm ∧ U.heap = h0) (fun _ _ _ _ _ => True) (fun _ U o U' => ∃ v L, o = .returned v ∧ Q_rmLa Z a1 zc h0 n0 v U'.heap L ∧ FrameEnd U o U' L ({ frames := 0, cells := 0, slots := 0, locals := 0 } : Room).cells ({ frames := 0, cells := 0, slots := 0, locals := 0 } : Room).slots) := by
  refine MetFree.of_bodySF (plainFor_of_name pn_1) hisR ?_
  intro p e s m args below meth c s₁ Bd hml0 hP hK
  obtain ⟨rfl, hZ, hh⟩ := hP
  have hx := Bd.exec
  have hby := Bd.bytes
  have hml : c.maxLocals = 1 := hml0
  have hown : s.vm.findClass "java/lang/AbstractStringBuilder" = some m.cls := findClass_of_methodNamed Bd.named
  have hnm := (name_of_methodNamed Bd.named Bd.method).1
  have X0 : Stand p l e ({ frames := 0, cells := 0, slots := 0, locals := 0 } : Room) s m #[(.ref a1)] below meth c s₁ [] 0 0 := Stand.of_body Bd
  have e0 : s₁.heap = h0 := by rw [← hh, Bd.state]; rfl
  have N0 := Fr.nil n0
  have pre0 : ∀ t, Steps p.tables e below (s₁.setTop (mkF m 0 #[.val (.ref a1)] [])) t → Steps p.tables e below (s₁.setTop (entryFrame m #[(.ref a1)] 1)) t := fun t k => castTop (ef_0 m a1) k
  obtain ⟨T1, X1, e1, st1⟩ := getS2 X0 hx hZ hown (host := "") (Or.inl (own_t hw 124 rfl)) Via.refl e0 S_COMPACT_STRINGS_ (g := (mkF m 0 #[.val (.ref a1)] [])) rfl (hb hby d68_68_0)
  obtain ⟨T2, X2, e2, st2⟩ := getF X1 hx hZ hown (host := "") (Or.inl (own_t hw 127 rfl)) Via.refl e1 F_coder_a1 (g := (mkF m 7 #[.val (.ref a1)] [(.ref a1)])) rfl rfl (hb hby d68_68_7)
  obtain ⟨fs, hr, hrun, hended, hW, hsame⟩ := X2.leave (v := some (.int 1)) (fun h => by rw [Bd.returns] at h; cases h)
  refine ⟨_, _, pre0 _ ?_, hrun, hended, _, _, rfl, ?_, ⟨_, rfl⟩, hW, hsame.mono (by decide) (by decide)⟩
  · show Steps p.tables e below (s₁.setTop (mkF m 0 #[.val (.ref a1)] [])) _
    refine st1 _ ?_
    show Steps p.tables e below (T1.setTop (mkF m 3 #[.val (.ref a1)] [(.int zc)])) _
    refine XS.ifNo X1.here hx rfl (hb hby d68_68_3) rfl ((if0 _ _).trans (feq hzc).1) ?_
    show Steps p.tables e below (T1.setTop (mkF m 6 #[.val (.ref a1)] [])) _
    refine XS.aloadN X1.here hx rfl (hb hby d68_68_6) rfl rfl ?_
    refine st2 _ ?_
    show Steps p.tables e below (T2.setTop (mkF m 10 #[.val (.ref a1)] [(.int 0)])) _
    refine XS.ifNo X2.here hx rfl (hb hby d68_68_10) rfl ((if0 _ _).trans (teq (by decide : (0 : Int32) = (0 : Int32))).2) ?_
    show Steps p.tables e below (T2.setTop (mkF m 13 #[.val (.ref a1)] [])) _
    refine XS.iconst X2.here hx rfl (hb hby d68_68_13) ?_
    refine XS.goto X2.here hx rfl (pc0 := 14) (pc' := 18) rfl (hb hby d68_68_14) (by decide) (by decide) ?_
    show Steps p.tables e below (T2.setTop (mkF m 18 #[.val (.ref a1)] [(.int 1)])) _
    exact retN X2 hx (t := .boolean) Bd.returns (by simp) (hb hby d68_68_18) hr
  · show Q_rmLa Z a1 zc h0 n0 _ T2.heap _
    rw [e2]
    exact ⟨rfl, N0, rfl⟩
theorem d65_131_0 : decode jdk_65_method_131_code 0 = .ok (.iload_n 1, 1) := by decide +kernel
theorem d65_131_1 : decode jdk_65_method_131_code 1 = .ok (.iload_n 0, 1) := by decide +kernel
theorem d65_131_2 : decode jdk_65_method_131_code 2 = .ok (.if_icmp .ge 35, 3) := by decide +kernel
theorem d65_131_37 : decode jdk_65_method_131_code 37 = .ok (.return_, 1) := by decide +kernel
def Q_rmCk_44 (Z : State)  (h0 : Heap) (n0 : Nat) (v : Option Value) (h : Heap) (L : List Loc) : Prop := v = none ∧ Fr n0 L ∧ h = h0
set_option maxRecDepth 65536 in
set_option maxHeartbeats 40000000 in
theorem rmCk_44 (l : Launch) (Z : State) (a0 : Array Value) (hw : ∀ d ∈ tables_1, d.before a0 Z = true) (ws : List Jvm.Cond)  (h0 : Heap) (n0 : Nat) (Z0 : n0 ≤ h0.size) :
    MetFree l (⟨"java/util/Arrays", "checkLength", "(II)V"⟩ : MethodName) (head1 (Jvm.Cond.code (⟨"java/util/Arrays", "checkLength", "(II)V"⟩ : MethodName) jdk_65_method_131_code 2 none :: ws) ({ frames := 0, cells := 0, slots := 0, locals := 0 } : Room)) (fun a U => a = #[(.int 0), (.int 44)] ∧ Z.Warmed39 U.vm ∧ U.heap = h0) (fun _ _ _ _ _ => True) (fun _ U o U' => ∃ v L, o = .returned v ∧ Q_rmCk_44 Z  h0 n0 v U'.heap L ∧ FrameEnd U o U' L ({ frames := 0, cells := 0, slots := 0, locals := 0 } : Room).cells ({ frames := 0, cells := 0, slots := 0, locals := 0 } : Room).slots) := by
  refine MetFree.of_bodySF (plainFor_of_name pn_4) hisR ?_
  intro p e s m args below meth c s₁ Bd hml0 hP hK
  obtain ⟨rfl, hZ, hh⟩ := hP
  have hx := Bd.exec
  have hby := Bd.bytes
  have hml : c.maxLocals = 2 := hml0
  have hown : s.vm.findClass "java/util/Arrays" = some m.cls := findClass_of_methodNamed Bd.named
  have hnm := (name_of_methodNamed Bd.named Bd.method).1
  have X0 : Stand p l e ({ frames := 0, cells := 0, slots := 0, locals := 0 } : Room) s m #[(.int 0), (.int 44)] below meth c s₁ [] 0 0 := Stand.of_body Bd
  have e0 : s₁.heap = h0 := by rw [← hh, Bd.state]; rfl
  have N0 := Fr.nil n0
  have pre0 : ∀ t, Steps p.tables e below (s₁.setTop (mkF m 0 #[.val (.int 0), .val (.int 44)] [])) t → Steps p.tables e below (s₁.setTop (entryFrame m #[(.int 0), (.int 44)] 2)) t := fun t k => castTop (ef_6 m (0 : Int32) (44 : Int32)) k
  obtain ⟨fs, hr, hrun, hended, hW, hsame⟩ := X0.leave (v := none) (fun _ => rfl)
  refine ⟨_, _, pre0 _ ?_, hrun, hended, _, _, rfl, ?_, ⟨_, rfl⟩, hW, hsame.mono (by decide) (by decide)⟩
  · show Steps p.tables e below (s₁.setTop (mkF m 0 #[.val (.int 0), .val (.int 44)] [])) _
    refine XS.iloadN X0.here hx rfl (hb hby d65_131_0) rfl ?_
    refine XS.iloadN X0.here hx rfl (hb hby d65_131_1) rfl ?_
    refine XS.icmpYes X0.here hx rfl (pc0 := 2) (pc' := 37) rfl (hb hby d65_131_2) rfl (flt (by decide : ¬ ((44 : Int32) < (0 : Int32)))).2.1 (by decide) (by decide) ?_
    show Steps p.tables e below (s₁.setTop (mkF m 37 #[.val (.int 0), .val (.int 44)] [])) _
    exact X0.returnOut hx Bd.returns (hb hby d65_131_37) hr
  · show Q_rmCk_44 Z  h0 n0 _ s₁.heap _
    rw [e0]
    exact ⟨rfl, N0, rfl⟩
theorem d65_133_0 : decode jdk_65_method_133_code 0 = .ok (.iload_n 1, 1) := by decide +kernel
theorem d65_133_1 : decode jdk_65_method_133_code 1 = .ok (.iload_n 2, 1) := by decide +kernel
theorem d65_133_2 : decode jdk_65_method_133_code 2 = .ok (.invokestatic 343, 3) := by decide +kernel
theorem pd_11 : parseMethodDescriptor "(II)V" = some ⟨[.int, .int], none⟩ := by decide +kernel
theorem d65_133_5 : decode jdk_65_method_133_code 5 = .ok (.iload_n 2, 1) := by decide +kernel
theorem d65_133_6 : decode jdk_65_method_133_code 6 = .ok (.iload_n 1, 1) := by decide +kernel
theorem d65_133_7 : decode jdk_65_method_133_code 7 = .ok (.isub, 1) := by decide +kernel
theorem d65_133_8 : decode jdk_65_method_133_code 8 = .ok (.istore_n 3, 1) := by decide +kernel
theorem d65_133_9 : decode jdk_65_method_133_code 9 = .ok (.iload_n 3, 1) := by decide +kernel
theorem d65_133_10 : decode jdk_65_method_133_code 10 = .ok (.newarray .byte, 2) := by decide +kernel
theorem d65_133_12 : decode jdk_65_method_133_code 12 = .ok (.astore 4, 2) := by decide +kernel
theorem d65_133_14 : decode jdk_65_method_133_code 14 = .ok (.aload_n 0, 1) := by decide +kernel
theorem d65_133_15 : decode jdk_65_method_133_code 15 = .ok (.iload_n 1, 1) := by decide +kernel
theorem d65_133_16 : decode jdk_65_method_133_code 16 = .ok (.aload 4, 2) := by decide +kernel
theorem d65_133_18 : decode jdk_65_method_133_code 18 = .ok (.iconst 0, 1) := by decide +kernel
theorem d65_133_19 : decode jdk_65_method_133_code 19 = .ok (.aload_n 0, 1) := by decide +kernel
theorem d65_133_20 : decode jdk_65_method_133_code 20 = .ok (.arraylength, 1) := by decide +kernel
theorem d65_133_21 : decode jdk_65_method_133_code 21 = .ok (.iload_n 1, 1) := by decide +kernel
theorem d65_133_22 : decode jdk_65_method_133_code 22 = .ok (.isub, 1) := by decide +kernel
theorem d65_133_23 : decode jdk_65_method_133_code 23 = .ok (.iload_n 3, 1) := by decide +kernel
theorem d65_133_24 : decode jdk_65_method_133_code 24 = .ok (.invokestatic 304, 3) := by decide +kernel
theorem d65_133_27 : decode jdk_65_method_133_code 27 = .ok (.invokestatic 150, 3) := by decide +kernel
theorem d65_133_30 : decode jdk_65_method_133_code 30 = .ok (.aload 4, 2) := by decide +kernel
theorem d65_133_32 : decode jdk_65_method_133_code 32 = .ok (.areturn, 1) := by decide +kernel
def Q_rmCB_44 (Z : State) (a1 : Addr) (k1 : ClassId) (L1 : List Value) (L3 : List Value) (h0 : Heap) (n0 : Nat) (v : Option Value) (h : Heap) (L : List Loc) : Prop := ∃ (b : Addr) (kb : ClassId), v = some (.ref b) ∧ Fr n0 L ∧ Keep h0 h [] ∧ n0 ≤ b ∧ h0.size ≤ b ∧ Arv Z h b kb .byte (44 : Int32) L3 (.int 0)
theorem ef_10 (m : MethodId) (x0 : Addr) (x1 : Int32) (x2 : Int32) : entryFrame m #[(.ref x0), (.int x1), (.int x2)] 5 = mkF m 0 #[.val (.ref x0), .val (.int x1), .val (.int x2), .unset, .unset] [] := by first | (simp [entryFrame, mkF, argsToLocals, Value.category]; done) | rfl
set_option maxRecDepth 65536 in
set_option maxHeartbeats 40000000 in
theorem rmCB_44 (l : Launch) (Z : State) (a0 : Array Value) (hw : ∀ d ∈ tables_1, d.before a0 Z = true) (ws : List Jvm.Cond) (a1 : Addr) (k1 : ClassId) (L1 : List Value) (L3 : List Value) (h0 : Heap) (n0 : Nat) (Z0 : n0 ≤ h0.size) (V_a1 : Arv Z h0 a1 k1 .byte (70 : Int32) L1 (.int 0)) (hL : own_put [oz, oz, oz, oz, oz, oz, oz, oz, oz, oz, oz, oz, oz, oz, oz, oz, oz, oz, oz, oz, oz, oz, oz, oz, oz, oz, oz, oz, oz, oz, oz, oz, oz, oz, oz, oz, oz, oz, oz, oz, oz, oz, oz, oz] (0 : Int32) L1 (44 : Int32) = L3) :
    MetFree l (⟨"java/util/Arrays", "copyOfRangeByte", "([BII)[B"⟩ : MethodName) (head1 (Jvm.Cond.code (⟨"java/util/Arrays", "copyOfRangeByte", "([BII)[B"⟩ : MethodName) jdk_65_method_133_code 5 (some (.array .byte)) :: ws) ({ frames := 1, cells := 1, slots := 44, locals := 18 } : Room)) (fun a U => a = #[(.ref a1), (.int 0), (.int 44)] ∧ Z.Warmed39 U.vm ∧ U.heap = h0) (fun _ _ _ _ _ => True) (fun _ U o U' => ∃ v L, o = .returned v ∧ Q_rmCB_44 Z a1 k1 L1 L3 h0 n0 v U'.heap L ∧ FrameEnd U o U' L ({ frames := 1, cells := 1, slots := 44, locals := 18 } : Room).cells ({ frames := 1, cells := 1, slots := 44, locals := 18 } : Room).slots) := by
  refine MetFree.of_bodySF (plainFor_of_name pn_4) hisR ?_
  intro p e s m args below meth c s₁ Bd hml0 hP hK
  obtain ⟨rfl, hZ, hh⟩ := hP
  have hx := Bd.exec
  have hby := Bd.bytes
  have hml : c.maxLocals = 5 := hml0
  have hown : s.vm.findClass "java/util/Arrays" = some m.cls := findClass_of_methodNamed Bd.named
  have hnm := (name_of_methodNamed Bd.named Bd.method).1
  have X0 : Stand p l e ({ frames := 1, cells := 1, slots := 44, locals := 18 } : Room) s m #[(.ref a1), (.int 0), (.int 44)] below meth c s₁ [] 0 0 := Stand.of_body Bd
  have e0 : s₁.heap = h0 := by rw [← hh, Bd.state]; rfl
  have N0 := Fr.nil n0
  have pre0 : ∀ t, Steps p.tables e below (s₁.setTop (mkF m 0 #[.val (.ref a1), .val (.int 0), .val (.int 44), .unset, .unset] [])) t → Steps p.tables e below (s₁.setTop (entryFrame m #[(.ref a1), (.int 0), (.int 44)] 5)) t := fun t k => castTop (ef_10 m a1 (0 : Int32) (44 : Int32)) k
  obtain ⟨_, _, ⟨T1, LL1, kk1, nn1⟩, -, X1, ⟨Lc1, hQ1, l1, y1, z1⟩, st1⟩ := Jvm.LawKit.callS X0 hx (y := (⟨"java/util/Arrays", "checkLength", "(II)V"⟩ : MethodName)) hown (mvT hZ (own_t hw 233 rfl)) (mvT hZ (own_t hw 234 rfl)) (mvT hZ (own_t hw 190 rfl)) (mvT hZ (own_t hw 235 rfl)) (by decide) (backOf (W := 0) (rmCk_44 l Z a0 hw []  h0 n0 Z0 ) hZ (own_t hw 235 rfl) (own_t hw 190 rfl) (by decide) (by decide)) (g := (mkF m 2 #[.val (.ref a1), .val (.int 0), .val (.int 44), .unset, .unset] [(.int 44), (.int 0)])) rfl (by rw [hml]; rfl) (argsL := [(.int 0), (.int 44)]) (rest := []) (lenOf pd_11 rfl) rfl (by show 2 * 0 + _ ≤ _; exact Nat.le_of_eq rfl) (hb hby d65_133_2) (fun _ _ => ⟨rfl, e0, (by decide : 0 + 0 ≤ _), (by decide : 0 + 0 ≤ _)⟩)
  dsimp only [Pt.U, Pt.locs, Pt.cells, Pt.slots] at X1 l1 y1 z1 st1 hQ1
  subst l1 y1 z1
  obtain ⟨rfl, N1q, e1⟩ := hQ1
  have N1 := Fr.app N0 N1q
  obtain ⟨T2, h2, k2, X2, e2, E2, A2, st2⟩ := newP X1 hx hZ (own_t hw 19 rfl) e1 (g := (mkF m 10 #[.val (.ref a1), .val (.int 0), .val (.int 44), .val (.int 44), .unset] [(.int 44)])) rfl (hb hby d65_133_10) rfl (by decide) (cap := 44) (by decide) (by decide) (by decide) (by decide)
  obtain ⟨b2, gg2⟩ : ∃ z, z = h0.size := ⟨_, rfl⟩
  rw [← gg2] at A2 st2
  have g_b2 : n0 ≤ b2 := Nat.le_trans Z0 (Nat.le_of_eq gg2.symm)
  have sz_b2 : h0.size ≤ b2 := Nat.le_trans (Keep.refl h0 []).1 (Nat.le_of_eq gg2.symm)
  have Q2 : Keep h0 h2 [] := (Keep.refl h0 []).ext E2
  have V_b2 : Arv Z h2 b2 k2 .byte (44 : Int32) [oz, oz, oz, oz, oz, oz, oz, oz, oz, oz, oz, oz, oz, oz, oz, oz, oz, oz, oz, oz, oz, oz, oz, oz, oz, oz, oz, oz, oz, oz, oz, oz, oz, oz, oz, oz, oz, oz, oz, oz, oz, oz, oz, oz] (.int 0) := (Arv.new A2 (by decide)).pad (pad_rep [] (.int 0) 44)
  obtain ⟨cl3, Ar3, q3, S3, M3, H3, G3⟩ := id (V_a1.ext E2)
  obtain ⟨_, _, ⟨T4, LL4, kk4, nn4⟩, -, X4, ⟨Lc4, hQ4, l4, y4, z4⟩, st4⟩ := Jvm.LawKit.callS X2 hx (y := (⟨"java/lang/Math", "min", "(II)I"⟩ : MethodName)) hown (mvT hZ (own_t hw 192 rfl)) (mvT hZ (own_t hw 193 rfl)) (mvT hZ (own_t hw 184 rfl)) (mvT hZ (own_t hw 194 rfl)) (by decide) (backOf (W := 4) (rmMn_70_44 l Z a0 hw []  h2 n0 (Nat.le_trans Z0 E2.1) ) hZ (own_t hw 194 rfl) (own_t hw 184 rfl) (by decide) (by decide)) (g := (mkF m 24 #[.val (.ref a1), .val (.int 0), .val (.int 44), .val (.int 44), .val (.ref b2)] [(.int 44), (.int 70), (.int 0), (.ref b2), (.int 0), (.ref a1)])) rfl (by rw [hml]; rfl) (argsL := [(.int 70), (.int 44)]) (rest := [(.int 0), (.ref b2), (.int 0), (.ref a1)]) (lenOf pd_7 rfl) rfl (by show 2 * 0 + _ ≤ _; exact Nat.le_of_eq rfl) (hb hby d65_133_24) (fun _ _ => ⟨rfl, e2, (by decide : 1 + 0 ≤ _), (by decide : 44 + 0 ≤ _)⟩)
  dsimp only [Pt.U, Pt.locs, Pt.cells, Pt.slots] at X4 l4 y4 z4 st4 hQ4
  subst l4 y4 z4
  obtain ⟨rfl, N4q, e4⟩ := hQ4
  have N4 := Fr.app N1 N4q
  obtain ⟨T5, h5, L5, X5, e5, N5, K5, V5, st5⟩ := cpA X4 hx hZ hown (own_t hw 195 rfl) (own_t hw 171 rfl) (own_t hw 169 rfl) (own_t hw 170 rfl) e4 (V_a1.ext E2) V_b2 (Or.inl ⟨rfl, rfl⟩) (by decide) (by decide) (by decide) (by decide) (by decide) (us := ((List.range ((44 : Int32)).toNatClampNeg).map fun i => (L1).getD (((0 : Int32)).toNatClampNeg + i) (.int 0))) rfl (by decide) N4 g_b2 (g := (mkF m 27 #[.val (.ref a1), .val (.int 0), .val (.int 44), .val (.int 44), .val (.ref b2)] [(.int 44), (.int 0), (.ref b2), (.int 0), (.ref a1)])) rfl (by rw [hml]; rfl) rfl (hb hby d65_133_27) (by decide) (W := 0) (by show 2 * 0 + _ ≤ _; exact Nat.le_of_eq rfl) (by decide)
  have Q5 : Keep h0 h5 [] := Q2.trans K5 (allS (Or.inr sz_b2) all0)
  obtain ⟨fs, hr, hrun, hended, hW, hsame⟩ := X5.leave (v := some (.ref b2)) (fun h => by rw [Bd.returns] at h; cases h)
  refine ⟨_, _, pre0 _ ?_, hrun, hended, _, _, rfl, ?_, ⟨_, rfl⟩, hW, hsame.mono (by decide) (by decide)⟩
  · show Steps p.tables e below (s₁.setTop (mkF m 0 #[.val (.ref a1), .val (.int 0), .val (.int 44), .unset, .unset] [])) _
    refine XS.iloadN X0.here hx rfl (hb hby d65_133_0) rfl ?_
    refine XS.iloadN X0.here hx rfl (hb hby d65_133_1) rfl ?_
    refine st1 _ ?_
    show Steps p.tables e below (T1.setTop (mkF m 5 #[.val (.ref a1), .val (.int 0), .val (.int 44), .unset, .unset] [])) _
    refine XS.iloadN X1.here hx rfl (hb hby d65_133_5) rfl ?_
    refine XS.iloadN X1.here hx rfl (hb hby d65_133_6) rfl ?_
    refine XS.isub X1.here hx rfl (hb hby d65_133_7) rfl ?_
    rw [(by decide : ((44 : Int32) - (0 : Int32)) = (44 : Int32))]
    show Steps p.tables e below (T1.setTop (mkF m 8 #[.val (.ref a1), .val (.int 0), .val (.int 44), .unset, .unset] [(.int 44)])) _
    refine XS.istoreN X1.here hx rfl (hb hby d65_133_8) rfl (l' := #[.val (.ref a1), .val (.int 0), .val (.int 44), .val (.int 44), .unset]) rfl ?_
    show Steps p.tables e below (T1.setTop (mkF m 9 #[.val (.ref a1), .val (.int 0), .val (.int 44), .val (.int 44), .unset] [])) _
    refine XS.iloadN X1.here hx rfl (hb hby d65_133_9) rfl ?_
    refine st2 _ ?_
    show Steps p.tables e below (T2.setTop (mkF m 12 #[.val (.ref a1), .val (.int 0), .val (.int 44), .val (.int 44), .unset] [(.ref b2)])) _
    refine XS.astore X2.here hx rfl (hb hby d65_133_12) rfl rfl (l' := #[.val (.ref a1), .val (.int 0), .val (.int 44), .val (.int 44), .val (.ref b2)]) rfl ?_
    show Steps p.tables e below (T2.setTop (mkF m 14 #[.val (.ref a1), .val (.int 0), .val (.int 44), .val (.int 44), .val (.ref b2)] [])) _
    refine XS.aloadN X2.here hx rfl (hb hby d65_133_14) rfl rfl ?_
    refine XS.iloadN X2.here hx rfl (hb hby d65_133_15) rfl ?_
    refine XS.aload X2.here hx rfl (hb hby d65_133_16) rfl rfl ?_
    refine XS.iconst X2.here hx rfl (hb hby d65_133_18) ?_
    refine XS.aloadN X2.here hx rfl (hb hby d65_133_19) rfl rfl ?_
    refine X2.arraylength hx (by rw [e2]; exact Ar3.1) (State.isArrayOf_alike hZ.alike Ar3.2.1) (g := (mkF m 20 #[.val (.ref a1), .val (.int 0), .val (.int 44), .val (.int 44), .val (.ref b2)] [(.ref a1), (.int 0), (.ref b2), (.int 0), (.ref a1)])) rfl rfl (hb hby d65_133_20) _ ?_
    rw [len_of S3 M3]
    show Steps p.tables e below (T2.setTop (mkF m 21 #[.val (.ref a1), .val (.int 0), .val (.int 44), .val (.int 44), .val (.ref b2)] [(.int 70), (.int 0), (.ref b2), (.int 0), (.ref a1)])) _
    refine XS.iloadN X2.here hx rfl (hb hby d65_133_21) rfl ?_
    refine XS.isub X2.here hx rfl (hb hby d65_133_22) rfl ?_
    rw [(by decide : ((70 : Int32) - (0 : Int32)) = (70 : Int32))]
    show Steps p.tables e below (T2.setTop (mkF m 23 #[.val (.ref a1), .val (.int 0), .val (.int 44), .val (.int 44), .val (.ref b2)] [(.int 70), (.int 0), (.ref b2), (.int 0), (.ref a1)])) _
    refine XS.iloadN X2.here hx rfl (hb hby d65_133_23) rfl ?_
    refine st4 _ ?_
    show Steps p.tables e below (T4.setTop (mkF m 27 #[.val (.ref a1), .val (.int 0), .val (.int 44), .val (.int 44), .val (.ref b2)] [(.int 44), (.int 0), (.ref b2), (.int 0), (.ref a1)])) _
    refine st5 _ ?_
    show Steps p.tables e below (T5.setTop (mkF m 30 #[.val (.ref a1), .val (.int 0), .val (.int 44), .val (.int 44), .val (.ref b2)] [])) _
    refine XS.aload X5.here hx rfl (hb hby d65_133_30) rfl rfl ?_
    exact X5.areturnOut hx rfl Bd.returns rfl (hb hby d65_133_32) hr
  · show Q_rmCB_44 Z a1 k1 L1 L3 h0 n0 _ T5.heap _
    rw [e5]
    exact ⟨b2, k2, rfl, N5, Q5, g_b2, sz_b2, (by rw [← hL]; exact V5)⟩
theorem d65_132_0 : decode jdk_65_method_132_code 0 = .ok (.iload_n 1, 1) := by decide +kernel
theorem d65_132_1 : decode jdk_65_method_132_code 1 = .ok (.ifCond .ne 9, 3) := by decide +kernel
theorem d65_132_4 : decode jdk_65_method_132_code 4 = .ok (.iload_n 2, 1) := by decide +kernel
theorem d65_132_5 : decode jdk_65_method_132_code 5 = .ok (.aload_n 0, 1) := by decide +kernel
theorem d65_132_6 : decode jdk_65_method_132_code 6 = .ok (.arraylength, 1) := by decide +kernel
theorem d65_132_7 : decode jdk_65_method_132_code 7 = .ok (.if_icmp .eq 10, 3) := by decide +kernel
theorem d65_132_10 : decode jdk_65_method_132_code 10 = .ok (.aload_n 0, 1) := by decide +kernel
theorem d65_132_11 : decode jdk_65_method_132_code 11 = .ok (.iload_n 1, 1) := by decide +kernel
theorem d65_132_12 : decode jdk_65_method_132_code 12 = .ok (.iload_n 2, 1) := by decide +kernel
theorem d65_132_13 : decode jdk_65_method_132_code 13 = .ok (.invokestatic 339, 3) := by decide +kernel
theorem pd_12 : parseMethodDescriptor "([BII)[B" = some ⟨[(.array .byte), .int, .int], some (.array .byte)⟩ := by decide +kernel
theorem d65_132_16 : decode jdk_65_method_132_code 16 = .ok (.areturn, 1) := by decide +kernel
def Q_rmCR_44 (Z : State) (a1 : Addr) (k1 : ClassId) (L1 : List Value) (L3 : List Value) (h0 : Heap) (n0 : Nat) (v : Option Value) (h : Heap) (L : List Loc) : Prop := ∃ (b : Addr) (kb : ClassId), v = some (.ref b) ∧ Fr n0 L ∧ Keep h0 h [] ∧ n0 ≤ b ∧ h0.size ≤ b ∧ Arv Z h b kb .byte (44 : Int32) L3 (.int 0)
theorem ef_11 (m : MethodId) (x0 : Addr) (x1 : Int32) (x2 : Int32) : entryFrame m #[(.ref x0), (.int x1), (.int x2)] 3 = mkF m 0 #[.val (.ref x0), .val (.int x1), .val (.int x2)] [] := by first | (simp [entryFrame, mkF, argsToLocals, Value.category]; done) | rfl
set_option maxRecDepth 65536 in
set_option maxHeartbeats 40000000 in
theorem rmCR_44 (l : Launch) (Z : State) (a0 : Array Value) (hw : ∀ d ∈ tables_1, d.before a0 Z = true) (ws : List Jvm.Cond) (a1 : Addr) (k1 : ClassId) (L1 : List Value) (L3 : List Value) (h0 : Heap) (n0 : Nat) (Z0 : n0 ≤ h0.size) (V_a1 : Arv Z h0 a1 k1 .byte (70 : Int32) L1 (.int 0)) (hL : own_put [oz, oz, oz, oz, oz, oz, oz, oz, oz, oz, oz, oz, oz, oz, oz, oz, oz, oz, oz, oz, oz, oz, oz, oz, oz, oz, oz, oz, oz, oz, oz, oz, oz, oz, oz, oz, oz, oz, oz, oz, oz, oz, oz, oz] (0 : Int32) L1 (44 : Int32) = L3) :
    MetFree l (⟨"java/util/Arrays", "copyOfRange", "([BII)[B"⟩ : MethodName) (head1 (Jvm.Cond.code (⟨"java/util/Arrays", "copyOfRange", "([BII)[B"⟩ : MethodName) jdk_65_method_132_code 3 (some (.array .byte)) :: ws) ({ frames := 2, cells := 1, slots := 44, locals := 34 } : Room)) (fun a U => a = #[(.ref a1), (.int 0), (.int 44)] ∧ Z.Warmed39 U.vm ∧ U.heap = h0) (fun _ _ _ _ _ => True) (fun _ U o U' => ∃ v L, o = .returned v ∧ Q_rmCR_44 Z a1 k1 L1 L3 h0 n0 v U'.heap L ∧ FrameEnd U o U' L ({ frames := 2, cells := 1, slots := 44, locals := 34 } : Room).cells ({ frames := 2, cells := 1, slots := 44, locals := 34 } : Room).slots) := by
  refine MetFree.of_bodySF (plainFor_of_name pn_4) hisR ?_
  intro p e s m args below meth c s₁ Bd hml0 hP hK
  obtain ⟨rfl, hZ, hh⟩ := hP
  have hx := Bd.exec
  have hby := Bd.bytes
  have hml : c.maxLocals = 3 := hml0
  have hown : s.vm.findClass "java/util/Arrays" = some m.cls := findClass_of_methodNamed Bd.named
  have hnm := (name_of_methodNamed Bd.named Bd.method).1
  have X0 : Stand p l e ({ frames := 2, cells := 1, slots := 44, locals := 34 } : Room) s m #[(.ref a1), (.int 0), (.int 44)] below meth c s₁ [] 0 0 := Stand.of_body Bd
  have e0 : s₁.heap = h0 := by rw [← hh, Bd.state]; rfl
  have N0 := Fr.nil n0
  have pre0 : ∀ t, Steps p.tables e below (s₁.setTop (mkF m 0 #[.val (.ref a1), .val (.int 0), .val (.int 44)] [])) t → Steps p.tables e below (s₁.setTop (entryFrame m #[(.ref a1), (.int 0), (.int 44)] 3)) t := fun t k => castTop (ef_11 m a1 (0 : Int32) (44 : Int32)) k
  obtain ⟨cl1, Ar1, q1, S1, M1, H1, G1⟩ := id V_a1
  obtain ⟨_, _, ⟨T2, LL2, kk2, nn2⟩, -, X2, ⟨Lc2, hQ2, l2, y2, z2⟩, st2⟩ := Jvm.LawKit.callS X0 hx (y := (⟨"java/util/Arrays", "copyOfRangeByte", "([BII)[B"⟩ : MethodName)) hown (mvT hZ (own_t hw 230 rfl)) (mvT hZ (own_t hw 231 rfl)) (mvT hZ (own_t hw 190 rfl)) (mvT hZ (own_t hw 232 rfl)) (by decide) (backOf (W := 0) (rmCB_44 l Z a0 hw [] a1 k1 L1 L3 h0 n0 Z0 V_a1 (hL)) hZ (own_t hw 232 rfl) (own_t hw 190 rfl) (by decide) (by decide)) (g := (mkF m 13 #[.val (.ref a1), .val (.int 0), .val (.int 44)] [(.int 44), (.int 0), (.ref a1)])) rfl (by rw [hml]; rfl) (argsL := [(.ref a1), (.int 0), (.int 44)]) (rest := []) (lenOf pd_12 rfl) rfl (by show 2 * 0 + _ ≤ _; exact Nat.le_of_eq rfl) (hb hby d65_132_13) (fun _ _ => ⟨rfl, e0, (by decide : 0 + 1 ≤ _), (by decide : 0 + 44 ≤ _)⟩)
  dsimp only [Pt.U, Pt.locs, Pt.cells, Pt.slots] at X2 l2 y2 z2 st2 hQ2
  subst l2 y2 z2
  obtain ⟨b_2, kb_2, rfl, N2q, K2, g_b_2, sq_b_2, p2_0⟩ := hQ2
  have N2 := Fr.app N0 N2q
  have sz_b_2 : h0.size ≤ b_2 := Nat.le_trans (Keep.refl h0 []).1 sq_b_2
  have Q2 : Keep h0 T2.heap [] := (Keep.refl h0 []).trans K2 all0
  obtain ⟨fs, hr, hrun, hended, hW, hsame⟩ := X2.leave (v := some (.ref b_2)) (fun h => by rw [Bd.returns] at h; cases h)
  refine ⟨_, _, pre0 _ ?_, hrun, hended, _, _, rfl, ?_, ⟨_, rfl⟩, hW, hsame.mono (by decide) (by decide)⟩
  · show Steps p.tables e below (s₁.setTop (mkF m 0 #[.val (.ref a1), .val (.int 0), .val (.int 44)] [])) _
    refine XS.iloadN X0.here hx rfl (hb hby d65_132_0) rfl ?_
    refine XS.ifNo X0.here hx rfl (hb hby d65_132_1) rfl ((if0 _ _).trans (teq (by decide : (0 : Int32) = (0 : Int32))).2) ?_
    show Steps p.tables e below (s₁.setTop (mkF m 4 #[.val (.ref a1), .val (.int 0), .val (.int 44)] [])) _
    refine XS.iloadN X0.here hx rfl (hb hby d65_132_4) rfl ?_
    refine XS.aloadN X0.here hx rfl (hb hby d65_132_5) rfl rfl ?_
    refine X0.arraylength hx (by rw [e0]; exact Ar1.1) (State.isArrayOf_alike hZ.alike Ar1.2.1) (g := (mkF m 6 #[.val (.ref a1), .val (.int 0), .val (.int 44)] [(.ref a1), (.int 44)])) rfl rfl (hb hby d65_132_6) _ ?_
    rw [len_of S1 M1]
    show Steps p.tables e below (s₁.setTop (mkF m 7 #[.val (.ref a1), .val (.int 0), .val (.int 44)] [(.int 70), (.int 44)])) _
    refine XS.icmpNo X0.here hx rfl (hb hby d65_132_7) rfl (feq (by decide : ¬ ((44 : Int32) = (70 : Int32)))).1 ?_
    show Steps p.tables e below (s₁.setTop (mkF m 10 #[.val (.ref a1), .val (.int 0), .val (.int 44)] [])) _
    refine XS.aloadN X0.here hx rfl (hb hby d65_132_10) rfl rfl ?_
    refine XS.iloadN X0.here hx rfl (hb hby d65_132_11) rfl ?_
    refine XS.iloadN X0.here hx rfl (hb hby d65_132_12) rfl ?_
    refine st2 _ ?_
    show Steps p.tables e below (T2.setTop (mkF m 16 #[.val (.ref a1), .val (.int 0), .val (.int 44)] [(.ref b_2)])) _
    exact X2.areturnOut hx rfl Bd.returns rfl (hb hby d65_132_16) hr
  · show Q_rmCR_44 Z a1 k1 L1 L3 h0 n0 _ T2.heap _
    exact ⟨b_2, kb_2, rfl, N2, Q2, g_b_2, sz_b_2, p2_0⟩
theorem d42_150_0 : decode jdk_42_method_150_code 0 = .ok (.aload_n 0, 1) := by decide +kernel
theorem d42_150_1 : decode jdk_42_method_150_code 1 = .ok (.invokespecial 1, 3) := by decide +kernel
theorem d42_150_4 : decode jdk_42_method_150_code 4 = .ok (.aload_n 1, 1) := by decide +kernel
theorem d42_150_5 : decode jdk_42_method_150_code 5 = .ok (.invokevirtual 552, 3) := by decide +kernel
theorem pd_13 : parseMethodDescriptor "()[B" = some ⟨[], some (.array .byte)⟩ := by decide +kernel
theorem d42_150_8 : decode jdk_42_method_150_code 8 = .ok (.astore_n 3, 1) := by decide +kernel
theorem d42_150_9 : decode jdk_42_method_150_code 9 = .ok (.aload_n 1, 1) := by decide +kernel
theorem d42_150_10 : decode jdk_42_method_150_code 10 = .ok (.invokevirtual 549, 3) := by decide +kernel
theorem d42_150_13 : decode jdk_42_method_150_code 13 = .ok (.istore 4, 2) := by decide +kernel
theorem d42_150_15 : decode jdk_42_method_150_code 15 = .ok (.aload_n 1, 1) := by decide +kernel
theorem d42_150_16 : decode jdk_42_method_150_code 16 = .ok (.invokevirtual 1047, 3) := by decide +kernel
theorem pd_14 : parseMethodDescriptor "()Z" = some ⟨[], some .boolean⟩ := by decide +kernel
theorem d42_150_19 : decode jdk_42_method_150_code 19 = .ok (.ifCond .eq 22, 3) := by decide +kernel
theorem d42_150_22 : decode jdk_42_method_150_code 22 = .ok (.aload_n 0, 1) := by decide +kernel
theorem d42_150_23 : decode jdk_42_method_150_code 23 = .ok (.iconst 0, 1) := by decide +kernel
theorem d42_150_24 : decode jdk_42_method_150_code 24 = .ok (.putfield 15, 3) := by decide +kernel
theorem d42_150_27 : decode jdk_42_method_150_code 27 = .ok (.aload_n 0, 1) := by decide +kernel
theorem d42_150_28 : decode jdk_42_method_150_code 28 = .ok (.aload_n 3, 1) := by decide +kernel
theorem d42_150_29 : decode jdk_42_method_150_code 29 = .ok (.iconst 0, 1) := by decide +kernel
theorem d42_150_30 : decode jdk_42_method_150_code 30 = .ok (.iload 4, 2) := by decide +kernel
theorem d42_150_32 : decode jdk_42_method_150_code 32 = .ok (.invokestatic 54, 3) := by decide +kernel
theorem d42_150_35 : decode jdk_42_method_150_code 35 = .ok (.putfield 9, 3) := by decide +kernel
theorem d42_150_38 : decode jdk_42_method_150_code 38 = .ok (.goto 59, 3) := by decide +kernel
theorem d42_150_97 : decode jdk_42_method_150_code 97 = .ok (.return_, 1) := by decide +kernel
def Q_rmI2_44 (Z : State) (a1 : Addr) (a2 : Addr) (t1 : Addr) (k1 : ClassId) (L1 : List Value) (L3 : List Value) (zc : Int32) (h0 : Heap) (n0 : Nat) (v : Option Value) (h : Heap) (L : List Loc) : Prop := ∃ (t : Addr) (kt : ClassId), v = none ∧ Fr n0 L ∧ Keep h0 h [a1] ∧ n0 ≤ t ∧ h0.size ≤ t ∧ Fld Z h a1 "java/lang/String" "value" "[B" (.ref t) ∧ Fld Z h a1 "java/lang/String" "coder" "B" (.int 0) ∧ Arv Z h t kt .byte (44 : Int32) L3 (.int 0)
theorem ef_12 (m : MethodId) (x0 : Addr) (x1 : Addr) : entryFrame m #[(.ref x0), (.ref x1), .null] 5 = mkF m 0 #[.val (.ref x0), .val (.ref x1), .val .null, .unset, .unset] [] := by first | (simp [entryFrame, mkF, argsToLocals, Value.category]; done) | rfl
set_option maxRecDepth 65536 in
set_option maxHeartbeats 40000000 in
theorem rmI2_44 (l : Launch) (Z : State) (a0 : Array Value) (hw : ∀ d ∈ tables_1, d.before a0 Z = true) (ws : List Jvm.Cond) (a1 : Addr) (a2 : Addr) (t1 : Addr) (k1 : ClassId) (L1 : List Value) (L3 : List Value) (zc : Int32) (h0 : Heap) (n0 : Nat) (Z0 : n0 ≤ h0.size) (E_a1 : Exa Z h0 a1 "java/lang/String") (F_value_a1 : Fld Z h0 a1 "java/lang/String" "value" "[B" .null) (F_coder_a1 : Fld Z h0 a1 "java/lang/String" "coder" "B" (.int 0)) (g_a1 : n0 ≤ a1) (E_a2 : Exa Z h0 a2 "java/lang/StringBuilder") (F_value_a2 : Fld Z h0 a2 "java/lang/AbstractStringBuilder" "value" "[B" (.ref t1)) (F_coder_a2 : Fld Z h0 a2 "java/lang/AbstractStringBuilder" "coder" "B" (.int 0)) (F_count_a2 : Fld Z h0 a2 "java/lang/AbstractStringBuilder" "count" "I" (.int 44)) (V_t1 : Arv Z h0 t1 k1 .byte (70 : Int32) L1 (.int 0)) (hL : own_put [oz, oz, oz, oz, oz, oz, oz, oz, oz, oz, oz, oz, oz, oz, oz, oz, oz, oz, oz, oz, oz, oz, oz, oz, oz, oz, oz, oz, oz, oz, oz, oz, oz, oz, oz, oz, oz, oz, oz, oz, oz, oz, oz, oz] (0 : Int32) L1 (44 : Int32) = L3) (S_COMPACT_STRINGS_ : Sta Z h0 "java/lang/String" "COMPACT_STRINGS" "Z" (.int zc)) (hzc : ¬ zc = 0) :
    MetFree l (⟨"java/lang/String", "<init>", "(Ljava/lang/AbstractStringBuilder;Ljava/lang/Void;)V"⟩ : MethodName) (head1 (Jvm.Cond.code (⟨"java/lang/String", "<init>", "(Ljava/lang/AbstractStringBuilder;Ljava/lang/Void;)V"⟩ : MethodName) jdk_42_method_150_code 5 none :: ws) ({ frames := 3, cells := 1, slots := 44, locals := 49 } : Room)) (fun a U => a = #[(.ref a1), (.ref a2), .null] ∧ Z.Warmed39 U.vm ∧ U.heap = h0) (fun _ _ _ _ _ => True) (fun _ U o U' => ∃ v L, o = .returned v ∧ Q_rmI2_44 Z a1 a2 t1 k1 L1 L3 zc h0 n0 v U'.heap L ∧ FrameEnd U o U' L ({ frames := 3, cells := 1, slots := 44, locals := 49 } : Room).cells ({ frames := 3, cells := 1, slots := 44, locals := 49 } : Room).slots) := by
  refine MetFree.of_bodySF (plainFor_of_name pn_0) hisR ?_
  intro p e s m args below meth c s₁ Bd hml0 hP hK
  obtain ⟨rfl, hZ, hh⟩ := hP
  have hx := Bd.exec
  have hby := Bd.bytes
  have hml : c.maxLocals = 5 := hml0
  have hown : s.vm.findClass "java/lang/String" = some m.cls := findClass_of_methodNamed Bd.named
  have hnm := (name_of_methodNamed Bd.named Bd.method).1
  have X0 : Stand p l e ({ frames := 3, cells := 1, slots := 44, locals := 49 } : Room) s m #[(.ref a1), (.ref a2), .null] below meth c s₁ [] 0 0 := Stand.of_body Bd
  have e0 : s₁.heap = h0 := by rw [← hh, Bd.state]; rfl
  have N0 := Fr.nil n0
  have pre0 : ∀ t, Steps p.tables e below (s₁.setTop (mkF m 0 #[.val (.ref a1), .val (.ref a2), .val .null, .unset, .unset] [])) t → Steps p.tables e below (s₁.setTop (entryFrame m #[(.ref a1), (.ref a2), .null] 5)) t := fun t k => castTop (ef_12 m a1 a2) k
  obtain ⟨T1, X1, e1, st1⟩ := initO X0 hx hZ hown (own_t hw 11 rfl) (own_t hw 12 rfl) (own_t hw 13 rfl) e0 (g := (mkF m 1 #[.val (.ref a1), .val (.ref a2), .val .null, .unset, .unset] [(.ref a1)])) rfl (by rw [hml]; rfl) rfl (hb hby d42_150_1) (by decide) (W := 0) (by show 2 * 0 + _ ≤ _; exact Nat.le_of_eq rfl) (by decide)
  obtain ⟨cq2, kq2, q2a, q2b, q2c⟩ := isOf hZ e1 E_a2
  obtain ⟨_, _, ⟨T2, LL2, kk2, nn2⟩, -, X2, ⟨Lc2, hQ2, l2, y2, z2⟩, st2⟩ := X1.virtualBack hx (y := (⟨"java/lang/AbstractStringBuilder", "getValue", "()[B"⟩ : MethodName)) (z := (⟨"java/lang/AbstractStringBuilder", "getValue", "()[B"⟩ : MethodName)) hown (mvT hZ (own_t hw 209 rfl)) (mvT hZ (own_t hw 210 rfl)) (notFace_of_selects (args := #[]) (mvT hZ (own_t hw 212 rfl))) (mvT hZ (own_t hw 212 rfl)) (mvT hZ (own_t hw 211 rfl)) (by decide) (backOf (W := 0) (rmGV l Z a0 hw [] a2 t1 h0 n0 Z0 F_value_a2) hZ (own_t hw 213 rfl) (own_t hw 121 rfl) (by decide) (by decide)) q2a q2c (g := (mkF m 5 #[.val (.ref a1), .val (.ref a2), .val .null, .unset, .unset] [(.ref a2)])) rfl (by rw [hml]; rfl) (Steps.refl _) (argsL := []) (rest := []) (lenOf pd_13 rfl) rfl (by show 2 * 0 + _ ≤ _; exact Nat.le_of_eq rfl) (hb hby d42_150_5) (fun _ _ => ⟨rfl, e1, (by decide : 0 + 0 ≤ _), (by decide : 0 + 0 ≤ _)⟩)
  dsimp only [Pt.U, Pt.locs, Pt.cells, Pt.slots] at X2 l2 y2 z2 st2 hQ2
  subst l2 y2 z2
  obtain ⟨rfl, N2q, e2⟩ := hQ2
  have N2 := Fr.app N0 N2q
  obtain ⟨cq3, kq3, q3a, q3b, q3c⟩ := isOf hZ e2 E_a2
  obtain ⟨_, _, ⟨T3, LL3, kk3, nn3⟩, -, X3, ⟨Lc3, hQ3, l3, y3, z3⟩, st3⟩ := X2.virtualBack hx (y := (⟨"java/lang/AbstractStringBuilder", "length", "()I"⟩ : MethodName)) (z := (⟨"java/lang/StringBuilder", "length", "()I"⟩ : MethodName)) hown (mvT hZ (own_t hw 214 rfl)) (mvT hZ (own_t hw 215 rfl)) (own_nf (args := #[]) (mvT hZ (own_t hw 212 rfl)) rfl) (mvT hZ (own_t hw 217 rfl)) (mvT hZ (own_t hw 218 rfl)) (by decide) (backOf (W := 0) (rmBL l Z a0 hw [] a2 (44 : Int32) h0 n0 Z0 E_a2 F_count_a2) hZ (own_t hw 219 rfl) (own_t hw 113 rfl) (by decide) (by decide)) q3a q3c (g := (mkF m 10 #[.val (.ref a1), .val (.ref a2), .val .null, .val (.ref t1), .unset] [(.ref a2)])) rfl (by rw [hml]; rfl) (Steps.refl _) (argsL := []) (rest := []) (lenOf pd_3 rfl) rfl (by show 2 * 0 + _ ≤ _; exact Nat.le_of_eq rfl) (hb hby d42_150_10) (fun _ _ => ⟨rfl, e2, (by decide : 0 + 0 ≤ _), (by decide : 0 + 0 ≤ _)⟩)
  dsimp only [Pt.U, Pt.locs, Pt.cells, Pt.slots] at X3 l3 y3 z3 st3 hQ3
  subst l3 y3 z3
  obtain ⟨rfl, N3q, e3⟩ := hQ3
  have N3 := Fr.app N2 N3q
  obtain ⟨cq4, kq4, q4a, q4b, q4c⟩ := isOf hZ e3 E_a2
  obtain ⟨_, _, ⟨T4, LL4, kk4, nn4⟩, -, X4, ⟨Lc4, hQ4, l4, y4, z4⟩, st4⟩ := X3.virtualBack hx (y := (⟨"java/lang/AbstractStringBuilder", "isLatin1", "()Z"⟩ : MethodName)) (z := (⟨"java/lang/AbstractStringBuilder", "isLatin1", "()Z"⟩ : MethodName)) hown (mvT hZ (own_t hw 222 rfl)) (mvT hZ (own_t hw 223 rfl)) (notFace_of_selects (args := #[]) (mvT hZ (own_t hw 225 rfl))) (mvT hZ (own_t hw 225 rfl)) (mvT hZ (own_t hw 224 rfl)) (by decide) (backOf (W := 0) (rmLa l Z a0 hw [] a2 zc h0 n0 Z0 F_coder_a2 S_COMPACT_STRINGS_ (hzc)) hZ (own_t hw 226 rfl) (own_t hw 121 rfl) (by decide) (by decide)) q4a q4c (g := (mkF m 16 #[.val (.ref a1), .val (.ref a2), .val .null, .val (.ref t1), .val (.int 44)] [(.ref a2)])) rfl (by rw [hml]; rfl) (Steps.refl _) (argsL := []) (rest := []) (lenOf pd_14 rfl) rfl (by show 2 * 0 + _ ≤ _; exact Nat.le_of_eq rfl) (hb hby d42_150_16) (fun _ _ => ⟨rfl, e3, (by decide : 0 + 0 ≤ _), (by decide : 0 + 0 ≤ _)⟩)
  dsimp only [Pt.U, Pt.locs, Pt.cells, Pt.slots] at X4 l4 y4 z4 st4 hQ4
  subst l4 y4 z4
  obtain ⟨rfl, N4q, e4⟩ := hQ4
  have N4 := Fr.app N3 N4q
  obtain ⟨T5, h5, X5, e5, W5, st5⟩ := putFN X4 hx hZ hown (own_t hw 26 rfl) Via.refl e4 F_coder_a1 E_a1 (Or.inr ⟨(own_t hw 27 rfl), rfl, hnm⟩) (own_t hw 2 rfl) (ty := .byte) (v' := (.int 0)) (by decide) rfl (by decide) (g := (mkF m 24 #[.val (.ref a1), .val (.ref a2), .val .null, .val (.ref t1), .val (.int 44)] [(.int 0), (.ref a1)])) rfl rfl (hb hby d42_150_24)
  have Fw5 := F_coder_a1.same W5
  have Q5 : Keep h0 h5 [a1] := (Keep.refl h0 [a1]).wr W5 (Or.inl (List.mem_of_getElem? (i := 0) rfl))
  have N5 := Fr.snoc X5 N4 g_a1
  have nq0 : t1 ≠ a1 := (Ne.symm (own_exarv (own_t hw 2 rfl) E_a1 V_t1))
  obtain ⟨_, _, ⟨T6, LL6, kk6, nn6⟩, -, X6, ⟨Lc6, hQ6, l6, y6, z6⟩, st6⟩ := Jvm.LawKit.callS X5 hx (y := (⟨"java/util/Arrays", "copyOfRange", "([BII)[B"⟩ : MethodName)) hown (mvT hZ (own_t hw 227 rfl)) (mvT hZ (own_t hw 228 rfl)) (mvT hZ (own_t hw 190 rfl)) (mvT hZ (own_t hw 229 rfl)) (by decide) (backOf (W := 1) (rmCR_44 l Z a0 hw [] t1 k1 L1 L3 h5 n0 (Nat.le_trans Z0 (Keep.of_wr W5).1) (V_t1.other W5 nq0) (hL)) hZ (own_t hw 229 rfl) (own_t hw 190 rfl) (by decide) (by decide)) (g := (mkF m 32 #[.val (.ref a1), .val (.ref a2), .val .null, .val (.ref t1), .val (.int 44)] [(.int 44), (.int 0), (.ref t1), (.ref a1)])) rfl (by rw [hml]; rfl) (argsL := [(.ref t1), (.int 0), (.int 44)]) (rest := [(.ref a1)]) (lenOf pd_12 rfl) rfl (by show 2 * 0 + _ ≤ _; exact Nat.le_of_eq rfl) (hb hby d42_150_32) (fun _ _ => ⟨rfl, e5, (by decide : 0 + 1 ≤ _), (by decide : 0 + 44 ≤ _)⟩)
  dsimp only [Pt.U, Pt.locs, Pt.cells, Pt.slots] at X6 l6 y6 z6 st6 hQ6
  subst l6 y6 z6
  obtain ⟨b_6, kb_6, rfl, N6q, K6, g_b_6, sq_b_6, p6_0⟩ := hQ6
  have N6 := Fr.app N5 N6q
  have sz_b_6 : h0.size ≤ b_6 := Nat.le_trans Q5.1 sq_b_6
  have Q6 : Keep h0 T6.heap [a1] := Q5.trans K6 all0
  obtain ⟨T7, h7, X7, e7, W7, st7⟩ := putF X6 hx hZ hown (host := "") (Or.inl (own_t hw 28 rfl)) Via.refl rfl ((F_value_a1.other W5 (Or.inr (slot_ne (Or.inr (own_t hw 29 rfl)) (Or.inr (own_t hw 27 rfl)) (by decide) (t := (.array .byte)) (t' := .byte) (by decide) (by decide)))).keep K6 nin0) ((E_a1.wr W5).keep K6) (Or.inr ⟨(own_t hw 29 rfl), rfl, hnm⟩) (own_t hw 2 rfl) (ty := (.array .byte)) (by decide) rfl rfl (g := (mkF m 35 #[.val (.ref a1), .val (.ref a2), .val .null, .val (.ref t1), .val (.int 44)] [(.ref b_6), (.ref a1)])) rfl rfl (hb hby d42_150_35)
  have Fw7 := ((F_value_a1.other W5 (Or.inr (slot_ne (Or.inr (own_t hw 29 rfl)) (Or.inr (own_t hw 27 rfl)) (by decide) (t := (.array .byte)) (t' := .byte) (by decide) (by decide)))).keep K6 nin0).same W7
  have Q7 : Keep h0 h7 [a1] := Q6.wr W7 (Or.inl (List.mem_of_getElem? (i := 0) rfl))
  have N7 := Fr.snoc X7 N6 g_a1
  have nq1 : b_6 ≠ a1 := (Ne.symm (Nat.ne_of_lt (Nat.lt_of_lt_of_le (E_a1.wr W5).lt sq_b_6)))
  obtain ⟨fs, hr, hrun, hended, hW, hsame⟩ := X7.leave (v := none) (fun _ => rfl)
  refine ⟨_, _, pre0 _ ?_, hrun, hended, _, _, rfl, ?_, ⟨_, rfl⟩, hW, hsame.mono (by decide) (by decide)⟩
  · show Steps p.tables e below (s₁.setTop (mkF m 0 #[.val (.ref a1), .val (.ref a2), .val .null, .unset, .unset] [])) _
    refine XS.aloadN X0.here hx rfl (hb hby d42_150_0) rfl rfl ?_
    refine st1 _ ?_
    show Steps p.tables e below (T1.setTop (mkF m 4 #[.val (.ref a1), .val (.ref a2), .val .null, .unset, .unset] [])) _
    refine XS.aloadN X1.here hx rfl (hb hby d42_150_4) rfl rfl ?_
    refine st2.trans ?_
    show Steps p.tables e below (T2.setTop (mkF m 8 #[.val (.ref a1), .val (.ref a2), .val .null, .unset, .unset] [(.ref t1)])) _
    refine XS.astoreN X2.here hx rfl (hb hby d42_150_8) rfl rfl (l' := #[.val (.ref a1), .val (.ref a2), .val .null, .val (.ref t1), .unset]) rfl ?_
    show Steps p.tables e below (T2.setTop (mkF m 9 #[.val (.ref a1), .val (.ref a2), .val .null, .val (.ref t1), .unset] [])) _
    refine XS.aloadN X2.here hx rfl (hb hby d42_150_9) rfl rfl ?_
    refine st3.trans ?_
    show Steps p.tables e below (T3.setTop (mkF m 13 #[.val (.ref a1), .val (.ref a2), .val .null, .val (.ref t1), .unset] [(.int 44)])) _
    refine XS.istore X3.here hx rfl (hb hby d42_150_13) rfl (l' := #[.val (.ref a1), .val (.ref a2), .val .null, .val (.ref t1), .val (.int 44)]) rfl ?_
    show Steps p.tables e below (T3.setTop (mkF m 15 #[.val (.ref a1), .val (.ref a2), .val .null, .val (.ref t1), .val (.int 44)] [])) _
    refine XS.aloadN X3.here hx rfl (hb hby d42_150_15) rfl rfl ?_
    refine st4.trans ?_
    show Steps p.tables e below (T4.setTop (mkF m 19 #[.val (.ref a1), .val (.ref a2), .val .null, .val (.ref t1), .val (.int 44)] [(.int 1)])) _
    refine XS.ifNo X4.here hx rfl (hb hby d42_150_19) rfl ((if0 _ _).trans (feq (by decide : ¬ ((1 : Int32) = (0 : Int32)))).1) ?_
    show Steps p.tables e below (T4.setTop (mkF m 22 #[.val (.ref a1), .val (.ref a2), .val .null, .val (.ref t1), .val (.int 44)] [])) _
    refine XS.aloadN X4.here hx rfl (hb hby d42_150_22) rfl rfl ?_
    refine XS.iconst X4.here hx rfl (hb hby d42_150_23) ?_
    refine st5 _ ?_
    show Steps p.tables e below (T5.setTop (mkF m 27 #[.val (.ref a1), .val (.ref a2), .val .null, .val (.ref t1), .val (.int 44)] [])) _
    refine XS.aloadN X5.here hx rfl (hb hby d42_150_27) rfl rfl ?_
    refine XS.aloadN X5.here hx rfl (hb hby d42_150_28) rfl rfl ?_
    refine XS.iconst X5.here hx rfl (hb hby d42_150_29) ?_
    refine XS.iload X5.here hx rfl (hb hby d42_150_30) rfl ?_
    refine st6 _ ?_
    show Steps p.tables e below (T6.setTop (mkF m 35 #[.val (.ref a1), .val (.ref a2), .val .null, .val (.ref t1), .val (.int 44)] [(.ref b_6), (.ref a1)])) _
    refine st7 _ ?_
    show Steps p.tables e below (T7.setTop (mkF m 38 #[.val (.ref a1), .val (.ref a2), .val .null, .val (.ref t1), .val (.int 44)] [])) _
    refine XS.goto X7.here hx rfl (pc0 := 38) (pc' := 97) rfl (hb hby d42_150_38) (by decide) (by decide) ?_
    show Steps p.tables e below (T7.setTop (mkF m 97 #[.val (.ref a1), .val (.ref a2), .val .null, .val (.ref t1), .val (.int 44)] [])) _
    exact X7.returnOut hx Bd.returns (hb hby d42_150_97) hr
  · show Q_rmI2_44 Z a1 a2 t1 k1 L1 L3 zc h0 n0 _ T7.heap _
    rw [e7]
    exact ⟨b_6, kb_6, rfl, N7, Q7, g_b_6, sz_b_6, Fw7, ((Fw5.keep K6 nin0).other W7 (Or.inr (slot_ne (Or.inr (own_t hw 27 rfl)) (Or.inr (own_t hw 29 rfl)) (by decide) (t := .byte) (t' := (.array .byte)) (by decide) (by decide)))), (p6_0.other W7 nq1)⟩
theorem d42_53_0 : decode jdk_42_method_53_code 0 = .ok (.aload_n 0, 1) := by decide +kernel
theorem d42_53_1 : decode jdk_42_method_53_code 1 = .ok (.aload_n 1, 1) := by decide +kernel
theorem d42_53_2 : decode jdk_42_method_53_code 2 = .ok (.aconst_null, 1) := by decide +kernel
theorem d42_53_3 : decode jdk_42_method_53_code 3 = .ok (.invokespecial 489, 3) := by decide +kernel
theorem pd_15 : parseMethodDescriptor "(Ljava/lang/AbstractStringBuilder;Ljava/lang/Void;)V" = some ⟨[(.object "java/lang/AbstractStringBuilder"), (.object "java/lang/Void")], none⟩ := by decide +kernel
theorem d42_53_6 : decode jdk_42_method_53_code 6 = .ok (.return_, 1) := by decide +kernel
def Q_rmI1_44 (Z : State) (a1 : Addr) (a2 : Addr) (t1 : Addr) (k1 : ClassId) (L1 : List Value) (L3 : List Value) (zc : Int32) (h0 : Heap) (n0 : Nat) (v : Option Value) (h : Heap) (L : List Loc) : Prop := ∃ (t : Addr) (kt : ClassId), v = none ∧ Fr n0 L ∧ Keep h0 h [a1] ∧ n0 ≤ t ∧ h0.size ≤ t ∧ Fld Z h a1 "java/lang/String" "value" "[B" (.ref t) ∧ Fld Z h a1 "java/lang/String" "coder" "B" (.int 0) ∧ Arv Z h t kt .byte (44 : Int32) L3 (.int 0)
set_option maxRecDepth 65536 in
set_option maxHeartbeats 40000000 in
theorem rmI1_44 (l : Launch) (Z : State) (a0 : Array Value) (hw : ∀ d ∈ tables_1, d.before a0 Z = true) (ws : List Jvm.Cond) (a1 : Addr) (a2 : Addr) (t1 : Addr) (k1 : ClassId) (L1 : List Value) (L3 : List Value) (zc : Int32) (h0 : Heap) (n0 : Nat) (Z0 : n0 ≤ h0.size) (E_a1 : Exa Z h0 a1 "java/lang/String") (F_value_a1 : Fld Z h0 a1 "java/lang/String" "value" "[B" .null) (F_coder_a1 : Fld Z h0 a1 "java/lang/String" "coder" "B" (.int 0)) (g_a1 : n0 ≤ a1) (E_a2 : Exa Z h0 a2 "java/lang/StringBuilder") (F_value_a2 : Fld Z h0 a2 "java/lang/AbstractStringBuilder" "value" "[B" (.ref t1)) (F_coder_a2 : Fld Z h0 a2 "java/lang/AbstractStringBuilder" "coder" "B" (.int 0)) (F_count_a2 : Fld Z h0 a2 "java/lang/AbstractStringBuilder" "count" "I" (.int 44)) (V_t1 : Arv Z h0 t1 k1 .byte (70 : Int32) L1 (.int 0)) (hL : own_put [oz, oz, oz, oz, oz, oz, oz, oz, oz, oz, oz, oz, oz, oz, oz, oz, oz, oz, oz, oz, oz, oz, oz, oz, oz, oz, oz, oz, oz, oz, oz, oz, oz, oz, oz, oz, oz, oz, oz, oz, oz, oz, oz, oz] (0 : Int32) L1 (44 : Int32) = L3) (S_COMPACT_STRINGS_ : Sta Z h0 "java/lang/String" "COMPACT_STRINGS" "Z" (.int zc)) (hzc : ¬ zc = 0) :
    MetFree l (⟨"java/lang/String", "<init>", "(Ljava/lang/StringBuilder;)V"⟩ : MethodName) (head1 (Jvm.Cond.code (⟨"java/lang/String", "<init>", "(Ljava/lang/StringBuilder;)V"⟩ : MethodName) jdk_42_method_53_code 2 none :: ws) ({ frames := 4, cells := 1, slots := 44, locals := 65 } : Room)) (fun a U => a = #[(.ref a1), (.ref a2)] ∧ Z.Warmed39 U.vm ∧ U.heap = h0) (fun _ _ _ _ _ => True) (fun _ U o U' => ∃ v L, o = .returned v ∧ Q_rmI1_44 Z a1 a2 t1 k1 L1 L3 zc h0 n0 v U'.heap L ∧ FrameEnd U o U' L ({ frames := 4, cells := 1, slots := 44, locals := 65 } : Room).cells ({ frames := 4, cells := 1, slots := 44, locals := 65 } : Room).slots) := by
  refine MetFree.of_bodySF (plainFor_of_name pn_0) hisR ?_
  intro p e s m args below meth c s₁ Bd hml0 hP hK
  obtain ⟨rfl, hZ, hh⟩ := hP
  have hx := Bd.exec
  have hby := Bd.bytes
  have hml : c.maxLocals = 2 := hml0
  have hown : s.vm.findClass "java/lang/String" = some m.cls := findClass_of_methodNamed Bd.named
  have hnm := (name_of_methodNamed Bd.named Bd.method).1
  have X0 : Stand p l e ({ frames := 4, cells := 1, slots := 44, locals := 65 } : Room) s m #[(.ref a1), (.ref a2)] below meth c s₁ [] 0 0 := Stand.of_body Bd
  have e0 : s₁.heap = h0 := by rw [← hh, Bd.state]; rfl
  have N0 := Fr.nil n0
  have pre0 : ∀ t, Steps p.tables e below (s₁.setTop (mkF m 0 #[.val (.ref a1), .val (.ref a2)] [])) t → Steps p.tables e below (s₁.setTop (entryFrame m #[(.ref a1), (.ref a2)] 2)) t := fun t k => castTop (ef_2 m a1 a2) k
  obtain ⟨_, _, ⟨T1, LL1, kk1, nn1⟩, -, X1, ⟨Lc1, hQ1, l1, y1, z1⟩, st1⟩ := X0.specialBack hx (y := (⟨"java/lang/String", "<init>", "(Ljava/lang/AbstractStringBuilder;Ljava/lang/Void;)V"⟩ : MethodName)) rfl hown (mvT hZ (own_t hw 206 rfl)) (mvT hZ (own_t hw 207 rfl)) (mvT hZ (own_t hw 208 rfl)) (by decide) (backOf (W := 0) (rmI2_44 l Z a0 hw [] a1 a2 t1 k1 L1 L3 zc h0 n0 Z0 E_a1 F_value_a1 F_coder_a1 g_a1 E_a2 F_value_a2 F_coder_a2 F_count_a2 V_t1 (hL) S_COMPACT_STRINGS_ (hzc)) hZ (own_t hw 208 rfl) (own_t hw 3 rfl) (by decide) (by decide)) (g := (mkF m 3 #[.val (.ref a1), .val (.ref a2)] [.null, (.ref a2), (.ref a1)])) rfl (by rw [hml]; rfl) (Steps.refl _) (a := a1) (argsL := [(.ref a2), .null]) (rest := []) (lenOf pd_15 rfl) rfl (by show 2 * 0 + _ ≤ _; exact Nat.le_of_eq rfl) (hb hby d42_53_3) (fun _ _ => ⟨rfl, e0, (by decide : 0 + 1 ≤ _), (by decide : 0 + 44 ≤ _)⟩)
  dsimp only [Pt.U, Pt.locs, Pt.cells, Pt.slots] at X1 l1 y1 z1 st1 hQ1
  subst l1 y1 z1
  obtain ⟨t_1, kt_1, rfl, N1q, K1, g_t_1, sq_t_1, p1_0, p1_1, p1_2⟩ := hQ1
  have N1 := Fr.app N0 N1q
  have sz_t_1 : h0.size ≤ t_1 := Nat.le_trans (Keep.refl h0 [a1]).1 sq_t_1
  have Q1 : Keep h0 T1.heap [a1] := (Keep.refl h0 [a1]).trans K1 (allS (Or.inl (List.mem_of_getElem? (i := 0) rfl)) all0)
  obtain ⟨fs, hr, hrun, hended, hW, hsame⟩ := X1.leave (v := none) (fun _ => rfl)
  refine ⟨_, _, pre0 _ ?_, hrun, hended, _, _, rfl, ?_, ⟨_, rfl⟩, hW, hsame.mono (by decide) (by decide)⟩
  · show Steps p.tables e below (s₁.setTop (mkF m 0 #[.val (.ref a1), .val (.ref a2)] [])) _
    refine XS.aloadN X0.here hx rfl (hb hby d42_53_0) rfl rfl ?_
    refine XS.aloadN X0.here hx rfl (hb hby d42_53_1) rfl rfl ?_
    refine XS.aconstNull X0.here hx rfl (hb hby d42_53_2) ?_
    refine st1.trans ?_
    show Steps p.tables e below (T1.setTop (mkF m 6 #[.val (.ref a1), .val (.ref a2)] [])) _
    exact X1.returnOut hx Bd.returns (hb hby d42_53_6) hr
  · show Q_rmI1_44 Z a1 a2 t1 k1 L1 L3 zc h0 n0 _ T1.heap _
    exact ⟨t_1, kt_1, rfl, N1, Q1, g_t_1, sz_t_1, p1_0, p1_1, p1_2⟩
theorem d67_42_0 : decode jdk_67_method_42_code 0 = .ok (.new 18, 3) := by decide +kernel
theorem d67_42_3 : decode jdk_67_method_42_code 3 = .ok (.dup, 1) := by decide +kernel
theorem d67_42_4 : decode jdk_67_method_42_code 4 = .ok (.aload_n 0, 1) := by decide +kernel
theorem d67_42_5 : decode jdk_67_method_42_code 5 = .ok (.invokespecial 137, 3) := by decide +kernel
theorem pd_16 : parseMethodDescriptor "(Ljava/lang/StringBuilder;)V" = some ⟨[(.object "java/lang/StringBuilder")], none⟩ := by decide +kernel
theorem d67_42_8 : decode jdk_67_method_42_code 8 = .ok (.areturn, 1) := by decide +kernel
def Q_rmTS_44 (Z : State) (a1 : Addr) (t1 : Addr) (k1 : ClassId) (L1 : List Value) (L3 : List Value) (zc : Int32) (h0 : Heap) (n0 : Nat) (v : Option Value) (h : Heap) (L : List Loc) : Prop := ∃ (b : Addr) (t : Addr) (kt : ClassId), v = some (.ref b) ∧ Fr n0 L ∧ Keep h0 h [] ∧ n0 ≤ b ∧ h0.size ≤ b ∧ n0 ≤ t ∧ h0.size ≤ t ∧ Exa Z h b "java/lang/String" ∧ Fld Z h b "java/lang/String" "value" "[B" (.ref t) ∧ Fld Z h b "java/lang/String" "coder" "B" (.int 0) ∧ Arv Z h t kt .byte (44 : Int32) L3 (.int 0)
set_option maxRecDepth 65536 in
set_option maxHeartbeats 40000000 in
theorem rmTS_44 (l : Launch) (Z : State) (a0 : Array Value) (hw : ∀ d ∈ tables_1, d.before a0 Z = true) (ws : List Jvm.Cond) (a1 : Addr) (t1 : Addr) (k1 : ClassId) (L1 : List Value) (L3 : List Value) (zc : Int32) (h0 : Heap) (n0 : Nat) (Z0 : n0 ≤ h0.size) (E_a1 : Exa Z h0 a1 "java/lang/StringBuilder") (F_value_a1 : Fld Z h0 a1 "java/lang/AbstractStringBuilder" "value" "[B" (.ref t1)) (F_coder_a1 : Fld Z h0 a1 "java/lang/AbstractStringBuilder" "coder" "B" (.int 0)) (F_count_a1 : Fld Z h0 a1 "java/lang/AbstractStringBuilder" "count" "I" (.int 44)) (V_t1 : Arv Z h0 t1 k1 .byte (70 : Int32) L1 (.int 0)) (hL : own_put [oz, oz, oz, oz, oz, oz, oz, oz, oz, oz, oz, oz, oz, oz, oz, oz, oz, oz, oz, oz, oz, oz, oz, oz, oz, oz, oz, oz, oz, oz, oz, oz, oz, oz, oz, oz, oz, oz, oz, oz, oz, oz, oz, oz] (0 : Int32) L1 (44 : Int32) = L3) (S_COMPACT_STRINGS_ : Sta Z h0 "java/lang/String" "COMPACT_STRINGS" "Z" (.int zc)) (hzc : ¬ zc = 0) :
    MetFree l (⟨"java/lang/StringBuilder", "toString", "()Ljava/lang/String;"⟩ : MethodName) (head1 (Jvm.Cond.code (⟨"java/lang/StringBuilder", "toString", "()Ljava/lang/String;"⟩ : MethodName) jdk_67_method_42_code 1 (some (.object "java/lang/String")) :: ws) ({ frames := 5, cells := 2, slots := 48, locals := 79 } : Room)) (fun a U => a = #[(.ref a1)] ∧ Z.Warmed39 U.vm ∧ U.heap = h0) (fun _ _ _ _ _ => True) (fun _ U o U' => ∃ v L, o = .returned v ∧ Q_rmTS_44 Z a1 t1 k1 L1 L3 zc h0 n0 v U'.heap L ∧ FrameEnd U o U' L ({ frames := 5, cells := 2, slots := 48, locals := 79 } : Room).cells ({ frames := 5, cells := 2, slots := 48, locals := 79 } : Room).slots) := by
  refine MetFree.of_bodySF (plainFor_of_name pn_2) hisR ?_
  intro p e s m args below meth c s₁ Bd hml0 hP hK
  obtain ⟨rfl, hZ, hh⟩ := hP
  have hx := Bd.exec
  have hby := Bd.bytes
  have hml : c.maxLocals = 1 := hml0
  have hown : s.vm.findClass "java/lang/StringBuilder" = some m.cls := findClass_of_methodNamed Bd.named
  have hnm := (name_of_methodNamed Bd.named Bd.method).1
  have X0 : Stand p l e ({ frames := 5, cells := 2, slots := 48, locals := 79 } : Room) s m #[(.ref a1)] below meth c s₁ [] 0 0 := Stand.of_body Bd
  have e0 : s₁.heap = h0 := by rw [← hh, Bd.state]; rfl
  have N0 := Fr.nil n0
  have pre0 : ∀ t, Steps p.tables e below (s₁.setTop (mkF m 0 #[.val (.ref a1)] [])) t → Steps p.tables e below (s₁.setTop (entryFrame m #[(.ref a1)] 1)) t := fun t k => castTop (ef_0 m a1) k
  obtain ⟨T1, h1, X1, e1, E1, A1, D1, -, st1⟩ := newO X0 hx hZ hown (own_t hw 202 rfl) (own_t hw 2 rfl) (own_t hw 3 rfl) e0 (g := (mkF m 0 #[.val (.ref a1)] [])) rfl (hb hby d67_42_0) (by decide) (by decide)
  obtain ⟨b1, gg1⟩ : ∃ z, z = h0.size := ⟨_, rfl⟩
  rw [← gg1] at A1 D1 st1
  have g_b1 : n0 ≤ b1 := Nat.le_trans Z0 (Nat.le_of_eq gg1.symm)
  have sz_b1 : h0.size ≤ b1 := Nat.le_trans (Keep.refl h0 []).1 (Nat.le_of_eq gg1.symm)
  have Q1 : Keep h0 h1 [] := (Keep.refl h0 []).ext E1
  have F_coder_b1 : Fld Z h1 b1 "java/lang/String" "coder" "B" (.int 0) := D1 (Or.inr (own_t hw 27 rfl)) (ty := .byte) (by decide)
  have F_value_b1 : Fld Z h1 b1 "java/lang/String" "value" "[B" .null := D1 (Or.inr (own_t hw 29 rfl)) (ty := (.array .byte)) (by decide)
  obtain ⟨_, _, ⟨T2, LL2, kk2, nn2⟩, -, X2, ⟨Lc2, hQ2, l2, y2, z2⟩, st2⟩ := X1.specialBack hx (y := (⟨"java/lang/String", "<init>", "(Ljava/lang/StringBuilder;)V"⟩ : MethodName)) rfl hown (mvT hZ (own_t hw 203 rfl)) (mvT hZ (own_t hw 204 rfl)) (mvT hZ (own_t hw 205 rfl)) (by decide) (backOf (W := 1) (rmI1_44 l Z a0 hw [] b1 a1 t1 k1 L1 L3 zc h1 n0 (Nat.le_trans Z0 E1.1) A1 F_value_b1 F_coder_b1 g_b1 (E_a1.ext E1) (F_value_a1.ext E1) (F_coder_a1.ext E1) (F_count_a1.ext E1) (V_t1.ext E1) (hL) (S_COMPACT_STRINGS_.ext E1) (hzc)) hZ (own_t hw 205 rfl) (own_t hw 3 rfl) (by decide) (by decide)) (g := (mkF m 5 #[.val (.ref a1)] [(.ref a1), (.ref b1), (.ref b1)])) rfl (by rw [hml]; rfl) (Steps.refl _) (a := b1) (argsL := [(.ref a1)]) (rest := [(.ref b1)]) (lenOf pd_16 rfl) rfl (by show 2 * 0 + _ ≤ _; exact Nat.le_of_eq rfl) (hb hby d67_42_5) (fun _ _ => ⟨rfl, e1, (by decide : 1 + 1 ≤ _), (by decide : 4 + 44 ≤ _)⟩)
  dsimp only [Pt.U, Pt.locs, Pt.cells, Pt.slots] at X2 l2 y2 z2 st2 hQ2
  subst l2 y2 z2
  obtain ⟨t_2, kt_2, rfl, N2q, K2, g_t_2, sq_t_2, p2_0, p2_1, p2_2⟩ := hQ2
  have N2 := Fr.app N0 N2q
  have sz_t_2 : h0.size ≤ t_2 := Nat.le_trans Q1.1 sq_t_2
  have Q2 : Keep h0 T2.heap [] := Q1.trans K2 (allS (Or.inr sz_b1) all0)
  obtain ⟨fs, hr, hrun, hended, hW, hsame⟩ := X2.leave (v := some (.ref b1)) (fun h => by rw [Bd.returns] at h; cases h)
  refine ⟨_, _, pre0 _ ?_, hrun, hended, _, _, rfl, ?_, ⟨_, rfl⟩, hW, hsame.mono (by decide) (by decide)⟩
  · show Steps p.tables e below (s₁.setTop (mkF m 0 #[.val (.ref a1)] [])) _
    refine st1 _ ?_
    show Steps p.tables e below (T1.setTop (mkF m 3 #[.val (.ref a1)] [(.ref b1)])) _
    refine XS.dup X1.here hx rfl (hb hby d67_42_3) rfl rfl ?_
    refine XS.aloadN X1.here hx rfl (hb hby d67_42_4) rfl rfl ?_
    refine st2.trans ?_
    show Steps p.tables e below (T2.setTop (mkF m 8 #[.val (.ref a1)] [(.ref b1)])) _
    exact X2.areturnOut hx rfl Bd.returns rfl (hb hby d67_42_8) hr
  · show Q_rmTS_44 Z a1 t1 k1 L1 L3 zc h0 n0 _ T2.heap _
    exact ⟨b1, t_2, kt_2, rfl, N2, Q2, g_b1, sz_b1, g_t_2, sz_t_2, (A1.keep K2), p2_0, p2_1, p2_2⟩
def Q_rmCk_47 (Z : State)  (h0 : Heap) (n0 : Nat) (v : Option Value) (h : Heap) (L : List Loc) : Prop := v = none ∧ Fr n0 L ∧ h = h0
set_option maxRecDepth 65536 in
set_option maxHeartbeats 40000000 in
theorem rmCk_47 (l : Launch) (Z : State) (a0 : Array Value) (hw : ∀ d ∈ tables_1, d.before a0 Z = true) (ws : List Jvm.Cond)  (h0 : Heap) (n0 : Nat) (Z0 : n0 ≤ h0.size) :
    MetFree l (⟨"java/util/Arrays", "checkLength", "(II)V"⟩ : MethodName) (head1 (Jvm.Cond.code (⟨"java/util/Arrays", "checkLength", "(II)V"⟩ : MethodName) jdk_65_method_131_code 2 none :: ws) ({ frames := 0, cells := 0, slots := 0, locals := 0 } : Room)) (fun a U => a = #[(.int 0), (.int 47)] ∧ Z.Warmed39 U.vm ∧ U.heap = h0) (fun _ _ _ _ _ => True) (fun _ U o U' => ∃ v L, o = .returned v ∧ Q_rmCk_47 Z  h0 n0 v U'.heap L ∧ FrameEnd U o U' L ({ frames := 0, cells := 0, slots := 0, locals := 0 } : Room).cells ({ frames := 0, cells := 0, slots := 0, locals := 0 } : Room).slots) := by
  refine MetFree.of_bodySF (plainFor_of_name pn_4) hisR ?_
  intro p e s m args below meth c s₁ Bd hml0 hP hK
  obtain ⟨rfl, hZ, hh⟩ := hP
  have hx := Bd.exec
  have hby := Bd.bytes
  have hml : c.maxLocals = 2 := hml0
  have hown : s.vm.findClass "java/util/Arrays" = some m.cls := findClass_of_methodNamed Bd.named
  have hnm := (name_of_methodNamed Bd.named Bd.method).1
  have X0 : Stand p l e ({ frames := 0, cells := 0, slots := 0, locals := 0 } : Room) s m #[(.int 0), (.int 47)] below meth c s₁ [] 0 0 := Stand.of_body Bd
  have e0 : s₁.heap = h0 := by rw [← hh, Bd.state]; rfl
  have N0 := Fr.nil n0
  have pre0 : ∀ t, Steps p.tables e below (s₁.setTop (mkF m 0 #[.val (.int 0), .val (.int 47)] [])) t → Steps p.tables e below (s₁.setTop (entryFrame m #[(.int 0), (.int 47)] 2)) t := fun t k => castTop (ef_6 m (0 : Int32) (47 : Int32)) k
  obtain ⟨fs, hr, hrun, hended, hW, hsame⟩ := X0.leave (v := none) (fun _ => rfl)
  refine ⟨_, _, pre0 _ ?_, hrun, hended, _, _, rfl, ?_, ⟨_, rfl⟩, hW, hsame.mono (by decide) (by decide)⟩
  · show Steps p.tables e below (s₁.setTop (mkF m 0 #[.val (.int 0), .val (.int 47)] [])) _
    refine XS.iloadN X0.here hx rfl (hb hby d65_131_0) rfl ?_
    refine XS.iloadN X0.here hx rfl (hb hby d65_131_1) rfl ?_
    refine XS.icmpYes X0.here hx rfl (pc0 := 2) (pc' := 37) rfl (hb hby d65_131_2) rfl (flt (by decide : ¬ ((47 : Int32) < (0 : Int32)))).2.1 (by decide) (by decide) ?_
    show Steps p.tables e below (s₁.setTop (mkF m 37 #[.val (.int 0), .val (.int 47)] [])) _
    exact X0.returnOut hx Bd.returns (hb hby d65_131_37) hr
  · show Q_rmCk_47 Z  h0 n0 _ s₁.heap _
    rw [e0]
    exact ⟨rfl, N0, rfl⟩
def Q_rmCB_47 (Z : State) (a1 : Addr) (k1 : ClassId) (L1 : List Value) (L3 : List Value) (h0 : Heap) (n0 : Nat) (v : Option Value) (h : Heap) (L : List Loc) : Prop := ∃ (b : Addr) (kb : ClassId), v = some (.ref b) ∧ Fr n0 L ∧ Keep h0 h [] ∧ n0 ≤ b ∧ h0.size ≤ b ∧ Arv Z h b kb .byte (47 : Int32) L3 (.int 0)
set_option maxRecDepth 65536 in
set_option maxHeartbeats 40000000 in
theorem rmCB_47 (l : Launch) (Z : State) (a0 : Array Value) (hw : ∀ d ∈ tables_1, d.before a0 Z = true) (ws : List Jvm.Cond) (a1 : Addr) (k1 : ClassId) (L1 : List Value) (L3 : List Value) (h0 : Heap) (n0 : Nat) (Z0 : n0 ≤ h0.size) (V_a1 : Arv Z h0 a1 k1 .byte (70 : Int32) L1 (.int 0)) (hL : own_put [oz, oz, oz, oz, oz, oz, oz, oz, oz, oz, oz, oz, oz, oz, oz, oz, oz, oz, oz, oz, oz, oz, oz, oz, oz, oz, oz, oz, oz, oz, oz, oz, oz, oz, oz, oz, oz, oz, oz, oz, oz, oz, oz, oz, oz, oz, oz] (0 : Int32) L1 (47 : Int32) = L3) :
    MetFree l (⟨"java/util/Arrays", "copyOfRangeByte", "([BII)[B"⟩ : MethodName) (head1 (Jvm.Cond.code (⟨"java/util/Arrays", "copyOfRangeByte", "([BII)[B"⟩ : MethodName) jdk_65_method_133_code 5 (some (.array .byte)) :: ws) ({ frames := 1, cells := 1, slots := 47, locals := 18 } : Room)) (fun a U => a = #[(.ref a1), (.int 0), (.int 47)] ∧ Z.Warmed39 U.vm ∧ U.heap = h0) (fun _ _ _ _ _ => True) (fun _ U o U' => ∃ v L, o = .returned v ∧ Q_rmCB_47 Z a1 k1 L1 L3 h0 n0 v U'.heap L ∧ FrameEnd U o U' L ({ frames := 1, cells := 1, slots := 47, locals := 18 } : Room).cells ({ frames := 1, cells := 1, slots := 47, locals := 18 } : Room).slots) := by
  refine MetFree.of_bodySF (plainFor_of_name pn_4) hisR ?_
  intro p e s m args below meth c s₁ Bd hml0 hP hK
  obtain ⟨rfl, hZ, hh⟩ := hP
  have hx := Bd.exec
  have hby := Bd.bytes
  have hml : c.maxLocals = 5 := hml0
  have hown : s.vm.findClass "java/util/Arrays" = some m.cls := findClass_of_methodNamed Bd.named
  have hnm := (name_of_methodNamed Bd.named Bd.method).1
  have X0 : Stand p l e ({ frames := 1, cells := 1, slots := 47, locals := 18 } : Room) s m #[(.ref a1), (.int 0), (.int 47)] below meth c s₁ [] 0 0 := Stand.of_body Bd
  have e0 : s₁.heap = h0 := by rw [← hh, Bd.state]; rfl
  have N0 := Fr.nil n0
  have pre0 : ∀ t, Steps p.tables e below (s₁.setTop (mkF m 0 #[.val (.ref a1), .val (.int 0), .val (.int 47), .unset, .unset] [])) t → Steps p.tables e below (s₁.setTop (entryFrame m #[(.ref a1), (.int 0), (.int 47)] 5)) t := fun t k => castTop (ef_10 m a1 (0 : Int32) (47 : Int32)) k
  obtain ⟨_, _, ⟨T1, LL1, kk1, nn1⟩, -, X1, ⟨Lc1, hQ1, l1, y1, z1⟩, st1⟩ := Jvm.LawKit.callS X0 hx (y := (⟨"java/util/Arrays", "checkLength", "(II)V"⟩ : MethodName)) hown (mvT hZ (own_t hw 233 rfl)) (mvT hZ (own_t hw 234 rfl)) (mvT hZ (own_t hw 190 rfl)) (mvT hZ (own_t hw 235 rfl)) (by decide) (backOf (W := 0) (rmCk_47 l Z a0 hw []  h0 n0 Z0 ) hZ (own_t hw 235 rfl) (own_t hw 190 rfl) (by decide) (by decide)) (g := (mkF m 2 #[.val (.ref a1), .val (.int 0), .val (.int 47), .unset, .unset] [(.int 47), (.int 0)])) rfl (by rw [hml]; rfl) (argsL := [(.int 0), (.int 47)]) (rest := []) (lenOf pd_11 rfl) rfl (by show 2 * 0 + _ ≤ _; exact Nat.le_of_eq rfl) (hb hby d65_133_2) (fun _ _ => ⟨rfl, e0, (by decide : 0 + 0 ≤ _), (by decide : 0 + 0 ≤ _)⟩)
  dsimp only [Pt.U, Pt.locs, Pt.cells, Pt.slots] at X1 l1 y1 z1 st1 hQ1
  subst l1 y1 z1
  obtain ⟨rfl, N1q, e1⟩ := hQ1
  have N1 := Fr.app N0 N1q
  obtain ⟨T2, h2, k2, X2, e2, E2, A2, st2⟩ := newP X1 hx hZ (own_t hw 19 rfl) e1 (g := (mkF m 10 #[.val (.ref a1), .val (.int 0), .val (.int 47), .val (.int 47), .unset] [(.int 47)])) rfl (hb hby d65_133_10) rfl (by decide) (cap := 47) (by decide) (by decide) (by decide) (by decide)
  obtain ⟨b2, gg2⟩ : ∃ z, z = h0.size := ⟨_, rfl⟩
  rw [← gg2] at A2 st2
  have g_b2 : n0 ≤ b2 := Nat.le_trans Z0 (Nat.le_of_eq gg2.symm)
  have sz_b2 : h0.size ≤ b2 := Nat.le_trans (Keep.refl h0 []).1 (Nat.le_of_eq gg2.symm)
  have Q2 : Keep h0 h2 [] := (Keep.refl h0 []).ext E2
  have V_b2 : Arv Z h2 b2 k2 .byte (47 : Int32) [oz, oz, oz, oz, oz, oz, oz, oz, oz, oz, oz, oz, oz, oz, oz, oz, oz, oz, oz, oz, oz, oz, oz, oz, oz, oz, oz, oz, oz, oz, oz, oz, oz, oz, oz, oz, oz, oz, oz, oz, oz, oz, oz, oz, oz, oz, oz] (.int 0) := (Arv.new A2 (by decide)).pad (pad_rep [] (.int 0) 47)
  obtain ⟨cl3, Ar3, q3, S3, M3, H3, G3⟩ := id (V_a1.ext E2)
  obtain ⟨_, _, ⟨T4, LL4, kk4, nn4⟩, -, X4, ⟨Lc4, hQ4, l4, y4, z4⟩, st4⟩ := Jvm.LawKit.callS X2 hx (y := (⟨"java/lang/Math", "min", "(II)I"⟩ : MethodName)) hown (mvT hZ (own_t hw 192 rfl)) (mvT hZ (own_t hw 193 rfl)) (mvT hZ (own_t hw 184 rfl)) (mvT hZ (own_t hw 194 rfl)) (by decide) (backOf (W := 4) (rmMn_70_47 l Z a0 hw []  h2 n0 (Nat.le_trans Z0 E2.1) ) hZ (own_t hw 194 rfl) (own_t hw 184 rfl) (by decide) (by decide)) (g := (mkF m 24 #[.val (.ref a1), .val (.int 0), .val (.int 47), .val (.int 47), .val (.ref b2)] [(.int 47), (.int 70), (.int 0), (.ref b2), (.int 0), (.ref a1)])) rfl (by rw [hml]; rfl) (argsL := [(.int 70), (.int 47)]) (rest := [(.int 0), (.ref b2), (.int 0), (.ref a1)]) (lenOf pd_7 rfl) rfl (by show 2 * 0 + _ ≤ _; exact Nat.le_of_eq rfl) (hb hby d65_133_24) (fun _ _ => ⟨rfl, e2, (by decide : 1 + 0 ≤ _), (by decide : 47 + 0 ≤ _)⟩)
  dsimp only [Pt.U, Pt.locs, Pt.cells, Pt.slots] at X4 l4 y4 z4 st4 hQ4
  subst l4 y4 z4
  obtain ⟨rfl, N4q, e4⟩ := hQ4
  have N4 := Fr.app N1 N4q
  obtain ⟨T5, h5, L5, X5, e5, N5, K5, V5, st5⟩ := cpA X4 hx hZ hown (own_t hw 195 rfl) (own_t hw 171 rfl) (own_t hw 169 rfl) (own_t hw 170 rfl) e4 (V_a1.ext E2) V_b2 (Or.inl ⟨rfl, rfl⟩) (by decide) (by decide) (by decide) (by decide) (by decide) (us := ((List.range ((47 : Int32)).toNatClampNeg).map fun i => (L1).getD (((0 : Int32)).toNatClampNeg + i) (.int 0))) rfl (by decide) N4 g_b2 (g := (mkF m 27 #[.val (.ref a1), .val (.int 0), .val (.int 47), .val (.int 47), .val (.ref b2)] [(.int 47), (.int 0), (.ref b2), (.int 0), (.ref a1)])) rfl (by rw [hml]; rfl) rfl (hb hby d65_133_27) (by decide) (W := 0) (by show 2 * 0 + _ ≤ _; exact Nat.le_of_eq rfl) (by decide)
  have Q5 : Keep h0 h5 [] := Q2.trans K5 (allS (Or.inr sz_b2) all0)
  obtain ⟨fs, hr, hrun, hended, hW, hsame⟩ := X5.leave (v := some (.ref b2)) (fun h => by rw [Bd.returns] at h; cases h)
  refine ⟨_, _, pre0 _ ?_, hrun, hended, _, _, rfl, ?_, ⟨_, rfl⟩, hW, hsame.mono (by decide) (by decide)⟩
  · show Steps p.tables e below (s₁.setTop (mkF m 0 #[.val (.ref a1), .val (.int 0), .val (.int 47), .unset, .unset] [])) _
    refine XS.iloadN X0.here hx rfl (hb hby d65_133_0) rfl ?_
    refine XS.iloadN X0.here hx rfl (hb hby d65_133_1) rfl ?_
    refine st1 _ ?_
    show Steps p.tables e below (T1.setTop (mkF m 5 #[.val (.ref a1), .val (.int 0), .val (.int 47), .unset, .unset] [])) _
    refine XS.iloadN X1.here hx rfl (hb hby d65_133_5) rfl ?_
    refine XS.iloadN X1.here hx rfl (hb hby d65_133_6) rfl ?_
    refine XS.isub X1.here hx rfl (hb hby d65_133_7) rfl ?_
    rw [(by decide : ((47 : Int32) - (0 : Int32)) = (47 : Int32))]
    show Steps p.tables e below (T1.setTop (mkF m 8 #[.val (.ref a1), .val (.int 0), .val (.int 47), .unset, .unset] [(.int 47)])) _
    refine XS.istoreN X1.here hx rfl (hb hby d65_133_8) rfl (l' := #[.val (.ref a1), .val (.int 0), .val (.int 47), .val (.int 47), .unset]) rfl ?_
    show Steps p.tables e below (T1.setTop (mkF m 9 #[.val (.ref a1), .val (.int 0), .val (.int 47), .val (.int 47), .unset] [])) _
    refine XS.iloadN X1.here hx rfl (hb hby d65_133_9) rfl ?_
    refine st2 _ ?_
    show Steps p.tables e below (T2.setTop (mkF m 12 #[.val (.ref a1), .val (.int 0), .val (.int 47), .val (.int 47), .unset] [(.ref b2)])) _
    refine XS.astore X2.here hx rfl (hb hby d65_133_12) rfl rfl (l' := #[.val (.ref a1), .val (.int 0), .val (.int 47), .val (.int 47), .val (.ref b2)]) rfl ?_
    show Steps p.tables e below (T2.setTop (mkF m 14 #[.val (.ref a1), .val (.int 0), .val (.int 47), .val (.int 47), .val (.ref b2)] [])) _
    refine XS.aloadN X2.here hx rfl (hb hby d65_133_14) rfl rfl ?_
    refine XS.iloadN X2.here hx rfl (hb hby d65_133_15) rfl ?_
    refine XS.aload X2.here hx rfl (hb hby d65_133_16) rfl rfl ?_
    refine XS.iconst X2.here hx rfl (hb hby d65_133_18) ?_
    refine XS.aloadN X2.here hx rfl (hb hby d65_133_19) rfl rfl ?_
    refine X2.arraylength hx (by rw [e2]; exact Ar3.1) (State.isArrayOf_alike hZ.alike Ar3.2.1) (g := (mkF m 20 #[.val (.ref a1), .val (.int 0), .val (.int 47), .val (.int 47), .val (.ref b2)] [(.ref a1), (.int 0), (.ref b2), (.int 0), (.ref a1)])) rfl rfl (hb hby d65_133_20) _ ?_
    rw [len_of S3 M3]
    show Steps p.tables e below (T2.setTop (mkF m 21 #[.val (.ref a1), .val (.int 0), .val (.int 47), .val (.int 47), .val (.ref b2)] [(.int 70), (.int 0), (.ref b2), (.int 0), (.ref a1)])) _
    refine XS.iloadN X2.here hx rfl (hb hby d65_133_21) rfl ?_
    refine XS.isub X2.here hx rfl (hb hby d65_133_22) rfl ?_
    rw [(by decide : ((70 : Int32) - (0 : Int32)) = (70 : Int32))]
    show Steps p.tables e below (T2.setTop (mkF m 23 #[.val (.ref a1), .val (.int 0), .val (.int 47), .val (.int 47), .val (.ref b2)] [(.int 70), (.int 0), (.ref b2), (.int 0), (.ref a1)])) _
    refine XS.iloadN X2.here hx rfl (hb hby d65_133_23) rfl ?_
    refine st4 _ ?_
    show Steps p.tables e below (T4.setTop (mkF m 27 #[.val (.ref a1), .val (.int 0), .val (.int 47), .val (.int 47), .val (.ref b2)] [(.int 47), (.int 0), (.ref b2), (.int 0), (.ref a1)])) _
    refine st5 _ ?_
    show Steps p.tables e below (T5.setTop (mkF m 30 #[.val (.ref a1), .val (.int 0), .val (.int 47), .val (.int 47), .val (.ref b2)] [])) _
    refine XS.aload X5.here hx rfl (hb hby d65_133_30) rfl rfl ?_
    exact X5.areturnOut hx rfl Bd.returns rfl (hb hby d65_133_32) hr
  · show Q_rmCB_47 Z a1 k1 L1 L3 h0 n0 _ T5.heap _
    rw [e5]
    exact ⟨b2, k2, rfl, N5, Q5, g_b2, sz_b2, (by rw [← hL]; exact V5)⟩
def Q_rmCR_47 (Z : State) (a1 : Addr) (k1 : ClassId) (L1 : List Value) (L3 : List Value) (h0 : Heap) (n0 : Nat) (v : Option Value) (h : Heap) (L : List Loc) : Prop := ∃ (b : Addr) (kb : ClassId), v = some (.ref b) ∧ Fr n0 L ∧ Keep h0 h [] ∧ n0 ≤ b ∧ h0.size ≤ b ∧ Arv Z h b kb .byte (47 : Int32) L3 (.int 0)
set_option maxRecDepth 65536 in
set_option maxHeartbeats 40000000 in
theorem rmCR_47 (l : Launch) (Z : State) (a0 : Array Value) (hw : ∀ d ∈ tables_1, d.before a0 Z = true) (ws : List Jvm.Cond) (a1 : Addr) (k1 : ClassId) (L1 : List Value) (L3 : List Value) (h0 : Heap) (n0 : Nat) (Z0 : n0 ≤ h0.size) (V_a1 : Arv Z h0 a1 k1 .byte (70 : Int32) L1 (.int 0)) (hL : own_put [oz, oz, oz, oz, oz, oz, oz, oz, oz, oz, oz, oz, oz, oz, oz, oz, oz, oz, oz, oz, oz, oz, oz, oz, oz, oz, oz, oz, oz, oz, oz, oz, oz, oz, oz, oz, oz, oz, oz, oz, oz, oz, oz, oz, oz, oz, oz] (0 : Int32) L1 (47 : Int32) = L3) :
    MetFree l (⟨"java/util/Arrays", "copyOfRange", "([BII)[B"⟩ : MethodName) (head1 (Jvm.Cond.code (⟨"java/util/Arrays", "copyOfRange", "([BII)[B"⟩ : MethodName) jdk_65_method_132_code 3 (some (.array .byte)) :: ws) ({ frames := 2, cells := 1, slots := 47, locals := 34 } : Room)) (fun a U => a = #[(.ref a1), (.int 0), (.int 47)] ∧ Z.Warmed39 U.vm ∧ U.heap = h0) (fun _ _ _ _ _ => True) (fun _ U o U' => ∃ v L, o = .returned v ∧ Q_rmCR_47 Z a1 k1 L1 L3 h0 n0 v U'.heap L ∧ FrameEnd U o U' L ({ frames := 2, cells := 1, slots := 47, locals := 34 } : Room).cells ({ frames := 2, cells := 1, slots := 47, locals := 34 } : Room).slots) := by
  refine MetFree.of_bodySF (plainFor_of_name pn_4) hisR ?_
  intro p e s m args below meth c s₁ Bd hml0 hP hK
  obtain ⟨rfl, hZ, hh⟩ := hP
  have hx := Bd.exec
  have hby := Bd.bytes
  have hml : c.maxLocals = 3 := hml0
  have hown : s.vm.findClass "java/util/Arrays" = some m.cls := findClass_of_methodNamed Bd.named
  have hnm := (name_of_methodNamed Bd.named Bd.method).1
  have X0 : Stand p l e ({ frames := 2, cells := 1, slots := 47, locals := 34 } : Room) s m #[(.ref a1), (.int 0), (.int 47)] below meth c s₁ [] 0 0 := Stand.of_body Bd
  have e0 : s₁.heap = h0 := by rw [← hh, Bd.state]; rfl
  have N0 := Fr.nil n0
  have pre0 : ∀ t, Steps p.tables e below (s₁.setTop (mkF m 0 #[.val (.ref a1), .val (.int 0), .val (.int 47)] [])) t → Steps p.tables e below (s₁.setTop (entryFrame m #[(.ref a1), (.int 0), (.int 47)] 3)) t := fun t k => castTop (ef_11 m a1 (0 : Int32) (47 : Int32)) k
  obtain ⟨cl1, Ar1, q1, S1, M1, H1, G1⟩ := id V_a1
  obtain ⟨_, _, ⟨T2, LL2, kk2, nn2⟩, -, X2, ⟨Lc2, hQ2, l2, y2, z2⟩, st2⟩ := Jvm.LawKit.callS X0 hx (y := (⟨"java/util/Arrays", "copyOfRangeByte", "([BII)[B"⟩ : MethodName)) hown (mvT hZ (own_t hw 230 rfl)) (mvT hZ (own_t hw 231 rfl)) (mvT hZ (own_t hw 190 rfl)) (mvT hZ (own_t hw 232 rfl)) (by decide) (backOf (W := 0) (rmCB_47 l Z a0 hw [] a1 k1 L1 L3 h0 n0 Z0 V_a1 (hL)) hZ (own_t hw 232 rfl) (own_t hw 190 rfl) (by decide) (by decide)) (g := (mkF m 13 #[.val (.ref a1), .val (.int 0), .val (.int 47)] [(.int 47), (.int 0), (.ref a1)])) rfl (by rw [hml]; rfl) (argsL := [(.ref a1), (.int 0), (.int 47)]) (rest := []) (lenOf pd_12 rfl) rfl (by show 2 * 0 + _ ≤ _; exact Nat.le_of_eq rfl) (hb hby d65_132_13) (fun _ _ => ⟨rfl, e0, (by decide : 0 + 1 ≤ _), (by decide : 0 + 47 ≤ _)⟩)
  dsimp only [Pt.U, Pt.locs, Pt.cells, Pt.slots] at X2 l2 y2 z2 st2 hQ2
  subst l2 y2 z2
  obtain ⟨b_2, kb_2, rfl, N2q, K2, g_b_2, sq_b_2, p2_0⟩ := hQ2
  have N2 := Fr.app N0 N2q
  have sz_b_2 : h0.size ≤ b_2 := Nat.le_trans (Keep.refl h0 []).1 sq_b_2
  have Q2 : Keep h0 T2.heap [] := (Keep.refl h0 []).trans K2 all0
  obtain ⟨fs, hr, hrun, hended, hW, hsame⟩ := X2.leave (v := some (.ref b_2)) (fun h => by rw [Bd.returns] at h; cases h)
  refine ⟨_, _, pre0 _ ?_, hrun, hended, _, _, rfl, ?_, ⟨_, rfl⟩, hW, hsame.mono (by decide) (by decide)⟩
  · show Steps p.tables e below (s₁.setTop (mkF m 0 #[.val (.ref a1), .val (.int 0), .val (.int 47)] [])) _
    refine XS.iloadN X0.here hx rfl (hb hby d65_132_0) rfl ?_
    refine XS.ifNo X0.here hx rfl (hb hby d65_132_1) rfl ((if0 _ _).trans (teq (by decide : (0 : Int32) = (0 : Int32))).2) ?_
    show Steps p.tables e below (s₁.setTop (mkF m 4 #[.val (.ref a1), .val (.int 0), .val (.int 47)] [])) _
    refine XS.iloadN X0.here hx rfl (hb hby d65_132_4) rfl ?_
    refine XS.aloadN X0.here hx rfl (hb hby d65_132_5) rfl rfl ?_
    refine X0.arraylength hx (by rw [e0]; exact Ar1.1) (State.isArrayOf_alike hZ.alike Ar1.2.1) (g := (mkF m 6 #[.val (.ref a1), .val (.int 0), .val (.int 47)] [(.ref a1), (.int 47)])) rfl rfl (hb hby d65_132_6) _ ?_
    rw [len_of S1 M1]
    show Steps p.tables e below (s₁.setTop (mkF m 7 #[.val (.ref a1), .val (.int 0), .val (.int 47)] [(.int 70), (.int 47)])) _
    refine XS.icmpNo X0.here hx rfl (hb hby d65_132_7) rfl (feq (by decide : ¬ ((47 : Int32) = (70 : Int32)))).1 ?_
    show Steps p.tables e below (s₁.setTop (mkF m 10 #[.val (.ref a1), .val (.int 0), .val (.int 47)] [])) _
    refine XS.aloadN X0.here hx rfl (hb hby d65_132_10) rfl rfl ?_
    refine XS.iloadN X0.here hx rfl (hb hby d65_132_11) rfl ?_
    refine XS.iloadN X0.here hx rfl (hb hby d65_132_12) rfl ?_
    refine st2 _ ?_
    show Steps p.tables e below (T2.setTop (mkF m 16 #[.val (.ref a1), .val (.int 0), .val (.int 47)] [(.ref b_2)])) _
    exact X2.areturnOut hx rfl Bd.returns rfl (hb hby d65_132_16) hr
  · show Q_rmCR_47 Z a1 k1 L1 L3 h0 n0 _ T2.heap _
    exact ⟨b_2, kb_2, rfl, N2, Q2, g_b_2, sz_b_2, p2_0⟩
def Q_rmI2_47 (Z : State) (a1 : Addr) (a2 : Addr) (t1 : Addr) (k1 : ClassId) (L1 : List Value) (L3 : List Value) (zc : Int32) (h0 : Heap) (n0 : Nat) (v : Option Value) (h : Heap) (L : List Loc) : Prop := ∃ (t : Addr) (kt : ClassId), v = none ∧ Fr n0 L ∧ Keep h0 h [a1] ∧ n0 ≤ t ∧ h0.size ≤ t ∧ Fld Z h a1 "java/lang/String" "value" "[B" (.ref t) ∧ Fld Z h a1 "java/lang/String" "coder" "B" (.int 0) ∧ Arv Z h t kt .byte (47 : Int32) L3 (.int 0)
set_option maxRecDepth 65536 in
set_option maxHeartbeats 40000000 in
theorem rmI2_47 (l : Launch) (Z : State) (a0 : Array Value) (hw : ∀ d ∈ tables_1, d.before a0 Z = true) (ws : List Jvm.Cond) (a1 : Addr) (a2 : Addr) (t1 : Addr) (k1 : ClassId) (L1 : List Value) (L3 : List Value) (zc : Int32) (h0 : Heap) (n0 : Nat) (Z0 : n0 ≤ h0.size) (E_a1 : Exa Z h0 a1 "java/lang/String") (F_value_a1 : Fld Z h0 a1 "java/lang/String" "value" "[B" .null) (F_coder_a1 : Fld Z h0 a1 "java/lang/String" "coder" "B" (.int 0)) (g_a1 : n0 ≤ a1) (E_a2 : Exa Z h0 a2 "java/lang/StringBuilder") (F_value_a2 : Fld Z h0 a2 "java/lang/AbstractStringBuilder" "value" "[B" (.ref t1)) (F_coder_a2 : Fld Z h0 a2 "java/lang/AbstractStringBuilder" "coder" "B" (.int 0)) (F_count_a2 : Fld Z h0 a2 "java/lang/AbstractStringBuilder" "count" "I" (.int 47)) (V_t1 : Arv Z h0 t1 k1 .byte (70 : Int32) L1 (.int 0)) (hL : own_put [oz, oz, oz, oz, oz, oz, oz, oz, oz, oz, oz, oz, oz, oz, oz, oz, oz, oz, oz, oz, oz, oz, oz, oz, oz, oz, oz, oz, oz, oz, oz, oz, oz, oz, oz, oz, oz, oz, oz, oz, oz, oz, oz, oz, oz, oz, oz] (0 : Int32) L1 (47 : Int32) = L3) (S_COMPACT_STRINGS_ : Sta Z h0 "java/lang/String" "COMPACT_STRINGS" "Z" (.int zc)) (hzc : ¬ zc = 0) :
    MetFree l (⟨"java/lang/String", "<init>", "(Ljava/lang/AbstractStringBuilder;Ljava/lang/Void;)V"⟩ : MethodName) (head1 (Jvm.Cond.code (⟨"java/lang/String", "<init>", "(Ljava/lang/AbstractStringBuilder;Ljava/lang/Void;)V"⟩ : MethodName) jdk_42_method_150_code 5 none :: ws) ({ frames := 3, cells := 1, slots := 47, locals := 49 } : Room)) (fun a U => a = #[(.ref a1), (.ref a2), .null] ∧ Z.Warmed39 U.vm ∧ U.heap = h0) (fun _ _ _ _ _ => True) (fun _ U o U' => ∃ v L, o = .returned v ∧ Q_rmI2_47 Z a1 a2 t1 k1 L1 L3 zc h0 n0 v U'.heap L ∧ FrameEnd U o U' L ({ frames := 3, cells := 1, slots := 47, locals := 49 } : Room).cells ({ frames := 3, cells := 1, slots := 47, locals := 49 } : Room).slots) := by
  refine MetFree.of_bodySF (plainFor_of_name pn_0) hisR ?_
  intro p e s m args below meth c s₁ Bd hml0 hP hK
  obtain ⟨rfl, hZ, hh⟩ := hP
  have hx := Bd.exec
  have hby := Bd.bytes
  have hml : c.maxLocals = 5 := hml0
  have hown : s.vm.findClass "java/lang/String" = some m.cls := findClass_of_methodNamed Bd.named
  have hnm := (name_of_methodNamed Bd.named Bd.method).1
  have X0 : Stand p l e ({ frames := 3, cells := 1, slots := 47, locals := 49 } : Room) s m #[(.ref a1), (.ref a2), .null] below meth c s₁ [] 0 0 := Stand.of_body Bd
  have e0 : s₁.heap = h0 := by rw [← hh, Bd.state]; rfl
  have N0 := Fr.nil n0
  have pre0 : ∀ t, Steps p.tables e below (s₁.setTop (mkF m 0 #[.val (.ref a1), .val (.ref a2), .val .null, .unset, .unset] [])) t → Steps p.tables e below (s₁.setTop (entryFrame m #[(.ref a1), (.ref a2), .null] 5)) t := fun t k => castTop (ef_12 m a1 a2) k
  obtain ⟨T1, X1, e1, st1⟩ := initO X0 hx hZ hown (own_t hw 11 rfl) (own_t hw 12 rfl) (own_t hw 13 rfl) e0 (g := (mkF m 1 #[.val (.ref a1), .val (.ref a2), .val .null, .unset, .unset] [(.ref a1)])) rfl (by rw [hml]; rfl) rfl (hb hby d42_150_1) (by decide) (W := 0) (by show 2 * 0 + _ ≤ _; exact Nat.le_of_eq rfl) (by decide)
  obtain ⟨cq2, kq2, q2a, q2b, q2c⟩ := isOf hZ e1 E_a2
  obtain ⟨_, _, ⟨T2, LL2, kk2, nn2⟩, -, X2, ⟨Lc2, hQ2, l2, y2, z2⟩, st2⟩ := X1.virtualBack hx (y := (⟨"java/lang/AbstractStringBuilder", "getValue", "()[B"⟩ : MethodName)) (z := (⟨"java/lang/AbstractStringBuilder", "getValue", "()[B"⟩ : MethodName)) hown (mvT hZ (own_t hw 209 rfl)) (mvT hZ (own_t hw 210 rfl)) (notFace_of_selects (args := #[]) (mvT hZ (own_t hw 212 rfl))) (mvT hZ (own_t hw 212 rfl)) (mvT hZ (own_t hw 211 rfl)) (by decide) (backOf (W := 0) (rmGV l Z a0 hw [] a2 t1 h0 n0 Z0 F_value_a2) hZ (own_t hw 213 rfl) (own_t hw 121 rfl) (by decide) (by decide)) q2a q2c (g := (mkF m 5 #[.val (.ref a1), .val (.ref a2), .val .null, .unset, .unset] [(.ref a2)])) rfl (by rw [hml]; rfl) (Steps.refl _) (argsL := []) (rest := []) (lenOf pd_13 rfl) rfl (by show 2 * 0 + _ ≤ _; exact Nat.le_of_eq rfl) (hb hby d42_150_5) (fun _ _ => ⟨rfl, e1, (by decide : 0 + 0 ≤ _), (by decide : 0 + 0 ≤ _)⟩)
  dsimp only [Pt.U, Pt.locs, Pt.cells, Pt.slots] at X2 l2 y2 z2 st2 hQ2
  subst l2 y2 z2
  obtain ⟨rfl, N2q, e2⟩ := hQ2
  have N2 := Fr.app N0 N2q
  obtain ⟨cq3, kq3, q3a, q3b, q3c⟩ := isOf hZ e2 E_a2
  obtain ⟨_, _, ⟨T3, LL3, kk3, nn3⟩, -, X3, ⟨Lc3, hQ3, l3, y3, z3⟩, st3⟩ := X2.virtualBack hx (y := (⟨"java/lang/AbstractStringBuilder", "length", "()I"⟩ : MethodName)) (z := (⟨"java/lang/StringBuilder", "length", "()I"⟩ : MethodName)) hown (mvT hZ (own_t hw 214 rfl)) (mvT hZ (own_t hw 215 rfl)) (own_nf (args := #[]) (mvT hZ (own_t hw 212 rfl)) rfl) (mvT hZ (own_t hw 217 rfl)) (mvT hZ (own_t hw 218 rfl)) (by decide) (backOf (W := 0) (rmBL l Z a0 hw [] a2 (47 : Int32) h0 n0 Z0 E_a2 F_count_a2) hZ (own_t hw 219 rfl) (own_t hw 113 rfl) (by decide) (by decide)) q3a q3c (g := (mkF m 10 #[.val (.ref a1), .val (.ref a2), .val .null, .val (.ref t1), .unset] [(.ref a2)])) rfl (by rw [hml]; rfl) (Steps.refl _) (argsL := []) (rest := []) (lenOf pd_3 rfl) rfl (by show 2 * 0 + _ ≤ _; exact Nat.le_of_eq rfl) (hb hby d42_150_10) (fun _ _ => ⟨rfl, e2, (by decide : 0 + 0 ≤ _), (by decide : 0 + 0 ≤ _)⟩)
  dsimp only [Pt.U, Pt.locs, Pt.cells, Pt.slots] at X3 l3 y3 z3 st3 hQ3
  subst l3 y3 z3
  obtain ⟨rfl, N3q, e3⟩ := hQ3
  have N3 := Fr.app N2 N3q
  obtain ⟨cq4, kq4, q4a, q4b, q4c⟩ := isOf hZ e3 E_a2
  obtain ⟨_, _, ⟨T4, LL4, kk4, nn4⟩, -, X4, ⟨Lc4, hQ4, l4, y4, z4⟩, st4⟩ := X3.virtualBack hx (y := (⟨"java/lang/AbstractStringBuilder", "isLatin1", "()Z"⟩ : MethodName)) (z := (⟨"java/lang/AbstractStringBuilder", "isLatin1", "()Z"⟩ : MethodName)) hown (mvT hZ (own_t hw 222 rfl)) (mvT hZ (own_t hw 223 rfl)) (notFace_of_selects (args := #[]) (mvT hZ (own_t hw 225 rfl))) (mvT hZ (own_t hw 225 rfl)) (mvT hZ (own_t hw 224 rfl)) (by decide) (backOf (W := 0) (rmLa l Z a0 hw [] a2 zc h0 n0 Z0 F_coder_a2 S_COMPACT_STRINGS_ (hzc)) hZ (own_t hw 226 rfl) (own_t hw 121 rfl) (by decide) (by decide)) q4a q4c (g := (mkF m 16 #[.val (.ref a1), .val (.ref a2), .val .null, .val (.ref t1), .val (.int 47)] [(.ref a2)])) rfl (by rw [hml]; rfl) (Steps.refl _) (argsL := []) (rest := []) (lenOf pd_14 rfl) rfl (by show 2 * 0 + _ ≤ _; exact Nat.le_of_eq rfl) (hb hby d42_150_16) (fun _ _ => ⟨rfl, e3, (by decide : 0 + 0 ≤ _), (by decide : 0 + 0 ≤ _)⟩)
  dsimp only [Pt.U, Pt.locs, Pt.cells, Pt.slots] at X4 l4 y4 z4 st4 hQ4
  subst l4 y4 z4
  obtain ⟨rfl, N4q, e4⟩ := hQ4
  have N4 := Fr.app N3 N4q
  obtain ⟨T5, h5, X5, e5, W5, st5⟩ := putFN X4 hx hZ hown (own_t hw 26 rfl) Via.refl e4 F_coder_a1 E_a1 (Or.inr ⟨(own_t hw 27 rfl), rfl, hnm⟩) (own_t hw 2 rfl) (ty := .byte) (v' := (.int 0)) (by decide) rfl (by decide) (g := (mkF m 24 #[.val (.ref a1), .val (.ref a2), .val .null, .val (.ref t1), .val (.int 47)] [(.int 0), (.ref a1)])) rfl rfl (hb hby d42_150_24)
  have Fw5 := F_coder_a1.same W5
  have Q5 : Keep h0 h5 [a1] := (Keep.refl h0 [a1]).wr W5 (Or.inl (List.mem_of_getElem? (i := 0) rfl))
  have N5 := Fr.snoc X5 N4 g_a1
  have nq0 : t1 ≠ a1 := (Ne.symm (own_exarv (own_t hw 2 rfl) E_a1 V_t1))
  obtain ⟨_, _, ⟨T6, LL6, kk6, nn6⟩, -, X6, ⟨Lc6, hQ6, l6, y6, z6⟩, st6⟩ := Jvm.LawKit.callS X5 hx (y := (⟨"java/util/Arrays", "copyOfRange", "([BII)[B"⟩ : MethodName)) hown (mvT hZ (own_t hw 227 rfl)) (mvT hZ (own_t hw 228 rfl)) (mvT hZ (own_t hw 190 rfl)) (mvT hZ (own_t hw 229 rfl)) (by decide) (backOf (W := 1) (rmCR_47 l Z a0 hw [] t1 k1 L1 L3 h5 n0 (Nat.le_trans Z0 (Keep.of_wr W5).1) (V_t1.other W5 nq0) (hL)) hZ (own_t hw 229 rfl) (own_t hw 190 rfl) (by decide) (by decide)) (g := (mkF m 32 #[.val (.ref a1), .val (.ref a2), .val .null, .val (.ref t1), .val (.int 47)] [(.int 47), (.int 0), (.ref t1), (.ref a1)])) rfl (by rw [hml]; rfl) (argsL := [(.ref t1), (.int 0), (.int 47)]) (rest := [(.ref a1)]) (lenOf pd_12 rfl) rfl (by show 2 * 0 + _ ≤ _; exact Nat.le_of_eq rfl) (hb hby d42_150_32) (fun _ _ => ⟨rfl, e5, (by decide : 0 + 1 ≤ _), (by decide : 0 + 47 ≤ _)⟩)
  dsimp only [Pt.U, Pt.locs, Pt.cells, Pt.slots] at X6 l6 y6 z6 st6 hQ6
  subst l6 y6 z6
  obtain ⟨b_6, kb_6, rfl, N6q, K6, g_b_6, sq_b_6, p6_0⟩ := hQ6
  have N6 := Fr.app N5 N6q
  have sz_b_6 : h0.size ≤ b_6 := Nat.le_trans Q5.1 sq_b_6
  have Q6 : Keep h0 T6.heap [a1] := Q5.trans K6 all0
  obtain ⟨T7, h7, X7, e7, W7, st7⟩ := putF X6 hx hZ hown (host := "") (Or.inl (own_t hw 28 rfl)) Via.refl rfl ((F_value_a1.other W5 (Or.inr (slot_ne (Or.inr (own_t hw 29 rfl)) (Or.inr (own_t hw 27 rfl)) (by decide) (t := (.array .byte)) (t' := .byte) (by decide) (by decide)))).keep K6 nin0) ((E_a1.wr W5).keep K6) (Or.inr ⟨(own_t hw 29 rfl), rfl, hnm⟩) (own_t hw 2 rfl) (ty := (.array .byte)) (by decide) rfl rfl (g := (mkF m 35 #[.val (.ref a1), .val (.ref a2), .val .null, .val (.ref t1), .val (.int 47)] [(.ref b_6), (.ref a1)])) rfl rfl (hb hby d42_150_35)
  have Fw7 := ((F_value_a1.other W5 (Or.inr (slot_ne (Or.inr (own_t hw 29 rfl)) (Or.inr (own_t hw 27 rfl)) (by decide) (t := (.array .byte)) (t' := .byte) (by decide) (by decide)))).keep K6 nin0).same W7
  have Q7 : Keep h0 h7 [a1] := Q6.wr W7 (Or.inl (List.mem_of_getElem? (i := 0) rfl))
  have N7 := Fr.snoc X7 N6 g_a1
  have nq1 : b_6 ≠ a1 := (Ne.symm (Nat.ne_of_lt (Nat.lt_of_lt_of_le (E_a1.wr W5).lt sq_b_6)))
  obtain ⟨fs, hr, hrun, hended, hW, hsame⟩ := X7.leave (v := none) (fun _ => rfl)
  refine ⟨_, _, pre0 _ ?_, hrun, hended, _, _, rfl, ?_, ⟨_, rfl⟩, hW, hsame.mono (by decide) (by decide)⟩
  · show Steps p.tables e below (s₁.setTop (mkF m 0 #[.val (.ref a1), .val (.ref a2), .val .null, .unset, .unset] [])) _
    refine XS.aloadN X0.here hx rfl (hb hby d42_150_0) rfl rfl ?_
    refine st1 _ ?_
    show Steps p.tables e below (T1.setTop (mkF m 4 #[.val (.ref a1), .val (.ref a2), .val .null, .unset, .unset] [])) _
    refine XS.aloadN X1.here hx rfl (hb hby d42_150_4) rfl rfl ?_
    refine st2.trans ?_
    show Steps p.tables e below (T2.setTop (mkF m 8 #[.val (.ref a1), .val (.ref a2), .val .null, .unset, .unset] [(.ref t1)])) _
    refine XS.astoreN X2.here hx rfl (hb hby d42_150_8) rfl rfl (l' := #[.val (.ref a1), .val (.ref a2), .val .null, .val (.ref t1), .unset]) rfl ?_
    show Steps p.tables e below (T2.setTop (mkF m 9 #[.val (.ref a1), .val (.ref a2), .val .null, .val (.ref t1), .unset] [])) _
    refine XS.aloadN X2.here hx rfl (hb hby d42_150_9) rfl rfl ?_
    refine st3.trans ?_
    show Steps p.tables e below (T3.setTop (mkF m 13 #[.val (.ref a1), .val (.ref a2), .val .null, .val (.ref t1), .unset] [(.int 47)])) _
    refine XS.istore X3.here hx rfl (hb hby d42_150_13) rfl (l' := #[.val (.ref a1), .val (.ref a2), .val .null, .val (.ref t1), .val (.int 47)]) rfl ?_
    show Steps p.tables e below (T3.setTop (mkF m 15 #[.val (.ref a1), .val (.ref a2), .val .null, .val (.ref t1), .val (.int 47)] [])) _
    refine XS.aloadN X3.here hx rfl (hb hby d42_150_15) rfl rfl ?_
    refine st4.trans ?_
    show Steps p.tables e below (T4.setTop (mkF m 19 #[.val (.ref a1), .val (.ref a2), .val .null, .val (.ref t1), .val (.int 47)] [(.int 1)])) _
    refine XS.ifNo X4.here hx rfl (hb hby d42_150_19) rfl ((if0 _ _).trans (feq (by decide : ¬ ((1 : Int32) = (0 : Int32)))).1) ?_
    show Steps p.tables e below (T4.setTop (mkF m 22 #[.val (.ref a1), .val (.ref a2), .val .null, .val (.ref t1), .val (.int 47)] [])) _
    refine XS.aloadN X4.here hx rfl (hb hby d42_150_22) rfl rfl ?_
    refine XS.iconst X4.here hx rfl (hb hby d42_150_23) ?_
    refine st5 _ ?_
    show Steps p.tables e below (T5.setTop (mkF m 27 #[.val (.ref a1), .val (.ref a2), .val .null, .val (.ref t1), .val (.int 47)] [])) _
    refine XS.aloadN X5.here hx rfl (hb hby d42_150_27) rfl rfl ?_
    refine XS.aloadN X5.here hx rfl (hb hby d42_150_28) rfl rfl ?_
    refine XS.iconst X5.here hx rfl (hb hby d42_150_29) ?_
    refine XS.iload X5.here hx rfl (hb hby d42_150_30) rfl ?_
    refine st6 _ ?_
    show Steps p.tables e below (T6.setTop (mkF m 35 #[.val (.ref a1), .val (.ref a2), .val .null, .val (.ref t1), .val (.int 47)] [(.ref b_6), (.ref a1)])) _
    refine st7 _ ?_
    show Steps p.tables e below (T7.setTop (mkF m 38 #[.val (.ref a1), .val (.ref a2), .val .null, .val (.ref t1), .val (.int 47)] [])) _
    refine XS.goto X7.here hx rfl (pc0 := 38) (pc' := 97) rfl (hb hby d42_150_38) (by decide) (by decide) ?_
    show Steps p.tables e below (T7.setTop (mkF m 97 #[.val (.ref a1), .val (.ref a2), .val .null, .val (.ref t1), .val (.int 47)] [])) _
    exact X7.returnOut hx Bd.returns (hb hby d42_150_97) hr
  · show Q_rmI2_47 Z a1 a2 t1 k1 L1 L3 zc h0 n0 _ T7.heap _
    rw [e7]
    exact ⟨b_6, kb_6, rfl, N7, Q7, g_b_6, sz_b_6, Fw7, ((Fw5.keep K6 nin0).other W7 (Or.inr (slot_ne (Or.inr (own_t hw 27 rfl)) (Or.inr (own_t hw 29 rfl)) (by decide) (t := .byte) (t' := (.array .byte)) (by decide) (by decide)))), (p6_0.other W7 nq1)⟩
def Q_rmI1_47 (Z : State) (a1 : Addr) (a2 : Addr) (t1 : Addr) (k1 : ClassId) (L1 : List Value) (L3 : List Value) (zc : Int32) (h0 : Heap) (n0 : Nat) (v : Option Value) (h : Heap) (L : List Loc) : Prop := ∃ (t : Addr) (kt : ClassId), v = none ∧ Fr n0 L ∧ Keep h0 h [a1] ∧ n0 ≤ t ∧ h0.size ≤ t ∧ Fld Z h a1 "java/lang/String" "value" "[B" (.ref t) ∧ Fld Z h a1 "java/lang/String" "coder" "B" (.int 0) ∧ Arv Z h t kt .byte (47 : Int32) L3 (.int 0)
set_option maxRecDepth 65536 in
set_option maxHeartbeats 40000000 in
theorem rmI1_47 (l : Launch) (Z : State) (a0 : Array Value) (hw : ∀ d ∈ tables_1, d.before a0 Z = true) (ws : List Jvm.Cond) (a1 : Addr) (a2 : Addr) (t1 : Addr) (k1 : ClassId) (L1 : List Value) (L3 : List Value) (zc : Int32) (h0 : Heap) (n0 : Nat) (Z0 : n0 ≤ h0.size) (E_a1 : Exa Z h0 a1 "java/lang/String") (F_value_a1 : Fld Z h0 a1 "java/lang/String" "value" "[B" .null) (F_coder_a1 : Fld Z h0 a1 "java/lang/String" "coder" "B" (.int 0)) (g_a1 : n0 ≤ a1) (E_a2 : Exa Z h0 a2 "java/lang/StringBuilder") (F_value_a2 : Fld Z h0 a2 "java/lang/AbstractStringBuilder" "value" "[B" (.ref t1)) (F_coder_a2 : Fld Z h0 a2 "java/lang/AbstractStringBuilder" "coder" "B" (.int 0)) (F_count_a2 : Fld Z h0 a2 "java/lang/AbstractStringBuilder" "count" "I" (.int 47)) (V_t1 : Arv Z h0 t1 k1 .byte (70 : Int32) L1 (.int 0)) (hL : own_put [oz, oz, oz, oz, oz, oz, oz, oz, oz, oz, oz, oz, oz, oz, oz, oz, oz, oz, oz, oz, oz, oz, oz, oz, oz, oz, oz, oz, oz, oz, oz, oz, oz, oz, oz, oz, oz, oz, oz, oz, oz, oz, oz, oz, oz, oz, oz] (0 : Int32) L1 (47 : Int32) = L3) (S_COMPACT_STRINGS_ : Sta Z h0 "java/lang/String" "COMPACT_STRINGS" "Z" (.int zc)) (hzc : ¬ zc = 0) :
    MetFree l (⟨"java/lang/String", "<init>", "(Ljava/lang/StringBuilder;)V"⟩ : MethodName) (head1 (Jvm.Cond.code (⟨"java/lang/String", "<init>", "(Ljava/lang/StringBuilder;)V"⟩ : MethodName) jdk_42_method_53_code 2 none :: ws) ({ frames := 4, cells := 1, slots := 47, locals := 65 } : Room)) (fun a U => a = #[(.ref a1), (.ref a2)] ∧ Z.Warmed39 U.vm ∧ U.heap = h0) (fun _ _ _ _ _ => True) (fun _ U o U' => ∃ v L, o = .returned v ∧ Q_rmI1_47 Z a1 a2 t1 k1 L1 L3 zc h0 n0 v U'.heap L ∧ FrameEnd U o U' L ({ frames := 4, cells := 1, slots := 47, locals := 65 } : Room).cells ({ frames := 4, cells := 1, slots := 47, locals := 65 } : Room).slots) := by
  refine MetFree.of_bodySF (plainFor_of_name pn_0) hisR ?_
  intro p e s m args below meth c s₁ Bd hml0 hP hK
  obtain ⟨rfl, hZ, hh⟩ := hP
  have hx := Bd.exec
  have hby := Bd.bytes
  have hml : c.maxLocals = 2 := hml0
  have hown : s.vm.findClass "java/lang/String" = some m.cls := findClass_of_methodNamed Bd.named
  have hnm := (name_of_methodNamed Bd.named Bd.method).1
  have X0 : Stand p l e ({ frames := 4, cells := 1, slots := 47, locals := 65 } : Room) s m #[(.ref a1), (.ref a2)] below meth c s₁ [] 0 0 := Stand.of_body Bd
  have e0 : s₁.heap = h0 := by rw [← hh, Bd.state]; rfl
  have N0 := Fr.nil n0
  have pre0 : ∀ t, Steps p.tables e below (s₁.setTop (mkF m 0 #[.val (.ref a1), .val (.ref a2)] [])) t → Steps p.tables e below (s₁.setTop (entryFrame m #[(.ref a1), (.ref a2)] 2)) t := fun t k => castTop (ef_2 m a1 a2) k
  obtain ⟨_, _, ⟨T1, LL1, kk1, nn1⟩, -, X1, ⟨Lc1, hQ1, l1, y1, z1⟩, st1⟩ := X0.specialBack hx (y := (⟨"java/lang/String", "<init>", "(Ljava/lang/AbstractStringBuilder;Ljava/lang/Void;)V"⟩ : MethodName)) rfl hown (mvT hZ (own_t hw 206 rfl)) (mvT hZ (own_t hw 207 rfl)) (mvT hZ (own_t hw 208 rfl)) (by decide) (backOf (W := 0) (rmI2_47 l Z a0 hw [] a1 a2 t1 k1 L1 L3 zc h0 n0 Z0 E_a1 F_value_a1 F_coder_a1 g_a1 E_a2 F_value_a2 F_coder_a2 F_count_a2 V_t1 (hL) S_COMPACT_STRINGS_ (hzc)) hZ (own_t hw 208 rfl) (own_t hw 3 rfl) (by decide) (by decide)) (g := (mkF m 3 #[.val (.ref a1), .val (.ref a2)] [.null, (.ref a2), (.ref a1)])) rfl (by rw [hml]; rfl) (Steps.refl _) (a := a1) (argsL := [(.ref a2), .null]) (rest := []) (lenOf pd_15 rfl) rfl (by show 2 * 0 + _ ≤ _; exact Nat.le_of_eq rfl) (hb hby d42_53_3) (fun _ _ => ⟨rfl, e0, (by decide : 0 + 1 ≤ _), (by decide : 0 + 47 ≤ _)⟩)
  dsimp only [Pt.U, Pt.locs, Pt.cells, Pt.slots] at X1 l1 y1 z1 st1 hQ1
  subst l1 y1 z1
  obtain ⟨t_1, kt_1, rfl, N1q, K1, g_t_1, sq_t_1, p1_0, p1_1, p1_2⟩ := hQ1
  have N1 := Fr.app N0 N1q
  have sz_t_1 : h0.size ≤ t_1 := Nat.le_trans (Keep.refl h0 [a1]).1 sq_t_1
  have Q1 : Keep h0 T1.heap [a1] := (Keep.refl h0 [a1]).trans K1 (allS (Or.inl (List.mem_of_getElem? (i := 0) rfl)) all0)
  obtain ⟨fs, hr, hrun, hended, hW, hsame⟩ := X1.leave (v := none) (fun _ => rfl)
  refine ⟨_, _, pre0 _ ?_, hrun, hended, _, _, rfl, ?_, ⟨_, rfl⟩, hW, hsame.mono (by decide) (by decide)⟩
  · show Steps p.tables e below (s₁.setTop (mkF m 0 #[.val (.ref a1), .val (.ref a2)] [])) _
    refine XS.aloadN X0.here hx rfl (hb hby d42_53_0) rfl rfl ?_
    refine XS.aloadN X0.here hx rfl (hb hby d42_53_1) rfl rfl ?_
    refine XS.aconstNull X0.here hx rfl (hb hby d42_53_2) ?_
    refine st1.trans ?_
    show Steps p.tables e below (T1.setTop (mkF m 6 #[.val (.ref a1), .val (.ref a2)] [])) _
    exact X1.returnOut hx Bd.returns (hb hby d42_53_6) hr
  · show Q_rmI1_47 Z a1 a2 t1 k1 L1 L3 zc h0 n0 _ T1.heap _
    exact ⟨t_1, kt_1, rfl, N1, Q1, g_t_1, sz_t_1, p1_0, p1_1, p1_2⟩
def Q_rmTS_47 (Z : State) (a1 : Addr) (t1 : Addr) (k1 : ClassId) (L1 : List Value) (L3 : List Value) (zc : Int32) (h0 : Heap) (n0 : Nat) (v : Option Value) (h : Heap) (L : List Loc) : Prop := ∃ (b : Addr) (t : Addr) (kt : ClassId), v = some (.ref b) ∧ Fr n0 L ∧ Keep h0 h [] ∧ n0 ≤ b ∧ h0.size ≤ b ∧ n0 ≤ t ∧ h0.size ≤ t ∧ Exa Z h b "java/lang/String" ∧ Fld Z h b "java/lang/String" "value" "[B" (.ref t) ∧ Fld Z h b "java/lang/String" "coder" "B" (.int 0) ∧ Arv Z h t kt .byte (47 : Int32) L3 (.int 0)
set_option maxRecDepth 65536 in
set_option maxHeartbeats 40000000 in
theorem rmTS_47 (l : Launch) (Z : State) (a0 : Array Value) (hw : ∀ d ∈ tables_1, d.before a0 Z = true) (ws : List Jvm.Cond) (a1 : Addr) (t1 : Addr) (k1 : ClassId) (L1 : List Value) (L3 : List Value) (zc : Int32) (h0 : Heap) (n0 : Nat) (Z0 : n0 ≤ h0.size) (E_a1 : Exa Z h0 a1 "java/lang/StringBuilder") (F_value_a1 : Fld Z h0 a1 "java/lang/AbstractStringBuilder" "value" "[B" (.ref t1)) (F_coder_a1 : Fld Z h0 a1 "java/lang/AbstractStringBuilder" "coder" "B" (.int 0)) (F_count_a1 : Fld Z h0 a1 "java/lang/AbstractStringBuilder" "count" "I" (.int 47)) (V_t1 : Arv Z h0 t1 k1 .byte (70 : Int32) L1 (.int 0)) (hL : own_put [oz, oz, oz, oz, oz, oz, oz, oz, oz, oz, oz, oz, oz, oz, oz, oz, oz, oz, oz, oz, oz, oz, oz, oz, oz, oz, oz, oz, oz, oz, oz, oz, oz, oz, oz, oz, oz, oz, oz, oz, oz, oz, oz, oz, oz, oz, oz] (0 : Int32) L1 (47 : Int32) = L3) (S_COMPACT_STRINGS_ : Sta Z h0 "java/lang/String" "COMPACT_STRINGS" "Z" (.int zc)) (hzc : ¬ zc = 0) :
    MetFree l (⟨"java/lang/StringBuilder", "toString", "()Ljava/lang/String;"⟩ : MethodName) (head1 (Jvm.Cond.code (⟨"java/lang/StringBuilder", "toString", "()Ljava/lang/String;"⟩ : MethodName) jdk_67_method_42_code 1 (some (.object "java/lang/String")) :: ws) ({ frames := 5, cells := 2, slots := 51, locals := 79 } : Room)) (fun a U => a = #[(.ref a1)] ∧ Z.Warmed39 U.vm ∧ U.heap = h0) (fun _ _ _ _ _ => True) (fun _ U o U' => ∃ v L, o = .returned v ∧ Q_rmTS_47 Z a1 t1 k1 L1 L3 zc h0 n0 v U'.heap L ∧ FrameEnd U o U' L ({ frames := 5, cells := 2, slots := 51, locals := 79 } : Room).cells ({ frames := 5, cells := 2, slots := 51, locals := 79 } : Room).slots) := by
  refine MetFree.of_bodySF (plainFor_of_name pn_2) hisR ?_
  intro p e s m args below meth c s₁ Bd hml0 hP hK
  obtain ⟨rfl, hZ, hh⟩ := hP
  have hx := Bd.exec
  have hby := Bd.bytes
  have hml : c.maxLocals = 1 := hml0
  have hown : s.vm.findClass "java/lang/StringBuilder" = some m.cls := findClass_of_methodNamed Bd.named
  have hnm := (name_of_methodNamed Bd.named Bd.method).1
  have X0 : Stand p l e ({ frames := 5, cells := 2, slots := 51, locals := 79 } : Room) s m #[(.ref a1)] below meth c s₁ [] 0 0 := Stand.of_body Bd
  have e0 : s₁.heap = h0 := by rw [← hh, Bd.state]; rfl
  have N0 := Fr.nil n0
  have pre0 : ∀ t, Steps p.tables e below (s₁.setTop (mkF m 0 #[.val (.ref a1)] [])) t → Steps p.tables e below (s₁.setTop (entryFrame m #[(.ref a1)] 1)) t := fun t k => castTop (ef_0 m a1) k
  obtain ⟨T1, h1, X1, e1, E1, A1, D1, -, st1⟩ := newO X0 hx hZ hown (own_t hw 202 rfl) (own_t hw 2 rfl) (own_t hw 3 rfl) e0 (g := (mkF m 0 #[.val (.ref a1)] [])) rfl (hb hby d67_42_0) (by decide) (by decide)
  obtain ⟨b1, gg1⟩ : ∃ z, z = h0.size := ⟨_, rfl⟩
  rw [← gg1] at A1 D1 st1
  have g_b1 : n0 ≤ b1 := Nat.le_trans Z0 (Nat.le_of_eq gg1.symm)
  have sz_b1 : h0.size ≤ b1 := Nat.le_trans (Keep.refl h0 []).1 (Nat.le_of_eq gg1.symm)
  have Q1 : Keep h0 h1 [] := (Keep.refl h0 []).ext E1
  have F_coder_b1 : Fld Z h1 b1 "java/lang/String" "coder" "B" (.int 0) := D1 (Or.inr (own_t hw 27 rfl)) (ty := .byte) (by decide)
  have F_value_b1 : Fld Z h1 b1 "java/lang/String" "value" "[B" .null := D1 (Or.inr (own_t hw 29 rfl)) (ty := (.array .byte)) (by decide)
  obtain ⟨_, _, ⟨T2, LL2, kk2, nn2⟩, -, X2, ⟨Lc2, hQ2, l2, y2, z2⟩, st2⟩ := X1.specialBack hx (y := (⟨"java/lang/String", "<init>", "(Ljava/lang/StringBuilder;)V"⟩ : MethodName)) rfl hown (mvT hZ (own_t hw 203 rfl)) (mvT hZ (own_t hw 204 rfl)) (mvT hZ (own_t hw 205 rfl)) (by decide) (backOf (W := 1) (rmI1_47 l Z a0 hw [] b1 a1 t1 k1 L1 L3 zc h1 n0 (Nat.le_trans Z0 E1.1) A1 F_value_b1 F_coder_b1 g_b1 (E_a1.ext E1) (F_value_a1.ext E1) (F_coder_a1.ext E1) (F_count_a1.ext E1) (V_t1.ext E1) (hL) (S_COMPACT_STRINGS_.ext E1) (hzc)) hZ (own_t hw 205 rfl) (own_t hw 3 rfl) (by decide) (by decide)) (g := (mkF m 5 #[.val (.ref a1)] [(.ref a1), (.ref b1), (.ref b1)])) rfl (by rw [hml]; rfl) (Steps.refl _) (a := b1) (argsL := [(.ref a1)]) (rest := [(.ref b1)]) (lenOf pd_16 rfl) rfl (by show 2 * 0 + _ ≤ _; exact Nat.le_of_eq rfl) (hb hby d67_42_5) (fun _ _ => ⟨rfl, e1, (by decide : 1 + 1 ≤ _), (by decide : 4 + 47 ≤ _)⟩)
  dsimp only [Pt.U, Pt.locs, Pt.cells, Pt.slots] at X2 l2 y2 z2 st2 hQ2
  subst l2 y2 z2
  obtain ⟨t_2, kt_2, rfl, N2q, K2, g_t_2, sq_t_2, p2_0, p2_1, p2_2⟩ := hQ2
  have N2 := Fr.app N0 N2q
  have sz_t_2 : h0.size ≤ t_2 := Nat.le_trans Q1.1 sq_t_2
  have Q2 : Keep h0 T2.heap [] := Q1.trans K2 (allS (Or.inr sz_b1) all0)
  obtain ⟨fs, hr, hrun, hended, hW, hsame⟩ := X2.leave (v := some (.ref b1)) (fun h => by rw [Bd.returns] at h; cases h)
  refine ⟨_, _, pre0 _ ?_, hrun, hended, _, _, rfl, ?_, ⟨_, rfl⟩, hW, hsame.mono (by decide) (by decide)⟩
  · show Steps p.tables e below (s₁.setTop (mkF m 0 #[.val (.ref a1)] [])) _
    refine st1 _ ?_
    show Steps p.tables e below (T1.setTop (mkF m 3 #[.val (.ref a1)] [(.ref b1)])) _
    refine XS.dup X1.here hx rfl (hb hby d67_42_3) rfl rfl ?_
    refine XS.aloadN X1.here hx rfl (hb hby d67_42_4) rfl rfl ?_
    refine st2.trans ?_
    show Steps p.tables e below (T2.setTop (mkF m 8 #[.val (.ref a1)] [(.ref b1)])) _
    exact X2.areturnOut hx rfl Bd.returns rfl (hb hby d67_42_8) hr
  · show Q_rmTS_47 Z a1 t1 k1 L1 L3 zc h0 n0 _ T2.heap _
    exact ⟨b1, t_2, kt_2, rfl, N2, Q2, g_b1, sz_b1, g_t_2, sz_t_2, (A1.keep K2), p2_0, p2_1, p2_2⟩
theorem d123_3_0 : decode jdk_123_method_3_code 0 = .ok (.iload_n 1, 1) := by decide +kernel
theorem d123_3_1 : decode jdk_123_method_3_code 1 = .ok (.iload_n 2, 1) := by decide +kernel
theorem d123_3_2 : decode jdk_123_method_3_code 2 = .ok (.iadd, 1) := by decide +kernel
theorem d123_3_3 : decode jdk_123_method_3_code 3 = .ok (.istore_n 3, 1) := by decide +kernel
theorem d123_3_4 : decode jdk_123_method_3_code 4 = .ok (.iload_n 1, 1) := by decide +kernel
theorem d123_3_5 : decode jdk_123_method_3_code 5 = .ok (.istore 4, 2) := by decide +kernel
theorem d123_3_7 : decode jdk_123_method_3_code 7 = .ok (.iload 4, 2) := by decide +kernel
theorem d123_3_9 : decode jdk_123_method_3_code 9 = .ok (.iload_n 3, 1) := by decide +kernel
theorem d123_3_10 : decode jdk_123_method_3_code 10 = .ok (.if_icmp .ge 21, 3) := by decide +kernel
theorem d123_3_31 : decode jdk_123_method_3_code 31 = .ok (.iload_n 2, 1) := by decide +kernel
theorem d123_3_32 : decode jdk_123_method_3_code 32 = .ok (.ireturn, 1) := by decide +kernel
def Q_rmcP (Z : State) (a1 : Addr) (h0 : Heap) (n0 : Nat) (v : Option Value) (h : Heap) (L : List Loc) : Prop := v = some (.int 0) ∧ Fr n0 L ∧ h = h0
theorem pn_5 : plainName "java/lang/StringCoding" = true := by first | (simp [plainName, overriddenIn]; done) | decide +kernel
set_option maxRecDepth 65536 in
set_option maxHeartbeats 40000000 in
theorem rmcP (l : Launch) (Z : State) (a0 : Array Value) (hw : ∀ d ∈ tables_1, d.before a0 Z = true) (ws : List Jvm.Cond) (a1 : Addr) (h0 : Heap) (n0 : Nat) (Z0 : n0 ≤ h0.size) :
    MetFree l (⟨"java/lang/StringCoding", "countPositives", "([BII)I"⟩ : MethodName) (head1 (Jvm.Cond.code (⟨"java/lang/StringCoding", "countPositives", "([BII)I"⟩ : MethodName) jdk_123_method_3_code 5 (some .int) :: ws) ({ frames := 0, cells := 0, slots := 0, locals := 0 } : Room)) (fun a U => a = #[(.ref a1), (.int 0), (.int 0)] ∧ Z.Warmed39 U.vm ∧ U.heap = h0) (fun _ _ _ _ _ => True) (fun _ U o U' => ∃ v L, o = .returned v ∧ Q_rmcP Z a1 h0 n0 v U'.heap L ∧ FrameEnd U o U' L ({ frames := 0, cells := 0, slots := 0, locals := 0 } : Room).cells ({ frames := 0, cells := 0, slots := 0, locals := 0 } : Room).slots) := by
  refine MetFree.of_bodySF (plainFor_of_name pn_5) hisR ?_
  intro p e s m args below meth c s₁ Bd hml0 hP hK
  obtain ⟨rfl, hZ, hh⟩ := hP
  have hx := Bd.exec
  have hby := Bd.bytes
  have hml : c.maxLocals = 5 := hml0
  have hown : s.vm.findClass "java/lang/StringCoding" = some m.cls := findClass_of_methodNamed Bd.named
  have hnm := (name_of_methodNamed Bd.named Bd.method).1
  have X0 : Stand p l e ({ frames := 0, cells := 0, slots := 0, locals := 0 } : Room) s m #[(.ref a1), (.int 0), (.int 0)] below meth c s₁ [] 0 0 := Stand.of_body Bd
  have e0 : s₁.heap = h0 := by rw [← hh, Bd.state]; rfl
  have N0 := Fr.nil n0
  have pre0 : ∀ t, Steps p.tables e below (s₁.setTop (mkF m 0 #[.val (.ref a1), .val (.int 0), .val (.int 0), .unset, .unset] [])) t → Steps p.tables e below (s₁.setTop (entryFrame m #[(.ref a1), (.int 0), (.int 0)] 5)) t := fun t k => castTop (ef_10 m a1 (0 : Int32) (0 : Int32)) k
  obtain ⟨fs, hr, hrun, hended, hW, hsame⟩ := X0.leave (v := some (.int 0)) (fun h => by rw [Bd.returns] at h; cases h)
  refine ⟨_, _, pre0 _ ?_, hrun, hended, _, _, rfl, ?_, ⟨_, rfl⟩, hW, hsame.mono (by decide) (by decide)⟩
  · show Steps p.tables e below (s₁.setTop (mkF m 0 #[.val (.ref a1), .val (.int 0), .val (.int 0), .unset, .unset] [])) _
    refine XS.iloadN X0.here hx rfl (hb hby d123_3_0) rfl ?_
    refine XS.iloadN X0.here hx rfl (hb hby d123_3_1) rfl ?_
    refine XS.iadd X0.here hx rfl (hb hby d123_3_2) rfl ?_
    rw [(by decide : ((0 : Int32) + (0 : Int32)) = (0 : Int32))]
    show Steps p.tables e below (s₁.setTop (mkF m 3 #[.val (.ref a1), .val (.int 0), .val (.int 0), .unset, .unset] [(.int 0)])) _
    refine XS.istoreN X0.here hx rfl (hb hby d123_3_3) rfl (l' := #[.val (.ref a1), .val (.int 0), .val (.int 0), .val (.int 0), .unset]) rfl ?_
    show Steps p.tables e below (s₁.setTop (mkF m 4 #[.val (.ref a1), .val (.int 0), .val (.int 0), .val (.int 0), .unset] [])) _
    refine XS.iloadN X0.here hx rfl (hb hby d123_3_4) rfl ?_
    refine XS.istore X0.here hx rfl (hb hby d123_3_5) rfl (l' := #[.val (.ref a1), .val (.int 0), .val (.int 0), .val (.int 0), .val (.int 0)]) rfl ?_
    show Steps p.tables e below (s₁.setTop (mkF m 7 #[.val (.ref a1), .val (.int 0), .val (.int 0), .val (.int 0), .val (.int 0)] [])) _
    refine XS.iload X0.here hx rfl (hb hby d123_3_7) rfl ?_
    refine XS.iloadN X0.here hx rfl (hb hby d123_3_9) rfl ?_
    refine XS.icmpYes X0.here hx rfl (pc0 := 10) (pc' := 31) rfl (hb hby d123_3_10) rfl (flt (by decide : ¬ ((0 : Int32) < (0 : Int32)))).2.1 (by decide) (by decide) ?_
    show Steps p.tables e below (s₁.setTop (mkF m 31 #[.val (.ref a1), .val (.int 0), .val (.int 0), .val (.int 0), .val (.int 0)] [])) _
    refine XS.iloadN X0.here hx rfl (hb hby d123_3_31) rfl ?_
    exact retI X0 hx Bd.returns (hb hby d123_3_32) hr
  · show Q_rmcP Z a1 h0 n0 _ s₁.heap _
    rw [e0]
    exact ⟨rfl, N0, rfl⟩
theorem d123_2_0 : decode jdk_123_method_2_code 0 = .ok (.aload_n 0, 1) := by decide +kernel
theorem d123_2_1 : decode jdk_123_method_2_code 1 = .ok (.iload_n 1, 1) := by decide +kernel
theorem d123_2_2 : decode jdk_123_method_2_code 2 = .ok (.iload_n 2, 1) := by decide +kernel
theorem d123_2_3 : decode jdk_123_method_2_code 3 = .ok (.invokestatic 7, 3) := by decide +kernel
theorem pd_17 : parseMethodDescriptor "([BII)I" = some ⟨[(.array .byte), .int, .int], some .int⟩ := by decide +kernel
theorem d123_2_6 : decode jdk_123_method_2_code 6 = .ok (.iload_n 2, 1) := by decide +kernel
theorem d123_2_7 : decode jdk_123_method_2_code 7 = .ok (.if_icmp .eq 7, 3) := by decide +kernel
theorem d123_2_14 : decode jdk_123_method_2_code 14 = .ok (.iconst 0, 1) := by decide +kernel
theorem d123_2_15 : decode jdk_123_method_2_code 15 = .ok (.ireturn, 1) := by decide +kernel
def Q_rmhN (Z : State) (a1 : Addr) (h0 : Heap) (n0 : Nat) (v : Option Value) (h : Heap) (L : List Loc) : Prop := v = some (.int 0) ∧ Fr n0 L ∧ h = h0
set_option maxRecDepth 65536 in
set_option maxHeartbeats 40000000 in
theorem rmhN (l : Launch) (Z : State) (a0 : Array Value) (hw : ∀ d ∈ tables_1, d.before a0 Z = true) (ws : List Jvm.Cond) (a1 : Addr) (h0 : Heap) (n0 : Nat) (Z0 : n0 ≤ h0.size) :
    MetFree l (⟨"java/lang/StringCoding", "hasNegatives", "([BII)Z"⟩ : MethodName) (head1 (Jvm.Cond.code (⟨"java/lang/StringCoding", "hasNegatives", "([BII)Z"⟩ : MethodName) jdk_123_method_2_code 3 (some .boolean) :: ws) ({ frames := 1, cells := 0, slots := 0, locals := 16 } : Room)) (fun a U => a = #[(.ref a1), (.int 0), (.int 0)] ∧ Z.Warmed39 U.vm ∧ U.heap = h0) (fun _ _ _ _ _ => True) (fun _ U o U' => ∃ v L, o = .returned v ∧ Q_rmhN Z a1 h0 n0 v U'.heap L ∧ FrameEnd U o U' L ({ frames := 1, cells := 0, slots := 0, locals := 16 } : Room).cells ({ frames := 1, cells := 0, slots := 0, locals := 16 } : Room).slots) := by
  refine MetFree.of_bodySF (plainFor_of_name pn_5) hisR ?_
  intro p e s m args below meth c s₁ Bd hml0 hP hK
  obtain ⟨rfl, hZ, hh⟩ := hP
  have hx := Bd.exec
  have hby := Bd.bytes
  have hml : c.maxLocals = 3 := hml0
  have hown : s.vm.findClass "java/lang/StringCoding" = some m.cls := findClass_of_methodNamed Bd.named
  have hnm := (name_of_methodNamed Bd.named Bd.method).1
  have X0 : Stand p l e ({ frames := 1, cells := 0, slots := 0, locals := 16 } : Room) s m #[(.ref a1), (.int 0), (.int 0)] below meth c s₁ [] 0 0 := Stand.of_body Bd
  have e0 : s₁.heap = h0 := by rw [← hh, Bd.state]; rfl
  have N0 := Fr.nil n0
  have pre0 : ∀ t, Steps p.tables e below (s₁.setTop (mkF m 0 #[.val (.ref a1), .val (.int 0), .val (.int 0)] [])) t → Steps p.tables e below (s₁.setTop (entryFrame m #[(.ref a1), (.int 0), (.int 0)] 3)) t := fun t k => castTop (ef_11 m a1 (0 : Int32) (0 : Int32)) k
  obtain ⟨_, _, ⟨T1, LL1, kk1, nn1⟩, -, X1, ⟨Lc1, hQ1, l1, y1, z1⟩, st1⟩ := Jvm.LawKit.callS X0 hx (y := (⟨"java/lang/StringCoding", "countPositives", "([BII)I"⟩ : MethodName)) hown (mvT hZ (own_t hw 79 rfl)) (mvT hZ (own_t hw 80 rfl)) (mvT hZ (own_t hw 77 rfl)) (mvT hZ (own_t hw 81 rfl)) (by decide) (backOf (W := 0) (rmcP l Z a0 hw [] a1 h0 n0 Z0 ) hZ (own_t hw 81 rfl) (own_t hw 77 rfl) (by decide) (by decide)) (g := (mkF m 3 #[.val (.ref a1), .val (.int 0), .val (.int 0)] [(.int 0), (.int 0), (.ref a1)])) rfl (by rw [hml]; rfl) (argsL := [(.ref a1), (.int 0), (.int 0)]) (rest := []) (lenOf pd_17 rfl) rfl (by show 2 * 0 + _ ≤ _; exact Nat.le_of_eq rfl) (hb hby d123_2_3) (fun _ _ => ⟨rfl, e0, (by decide : 0 + 0 ≤ _), (by decide : 0 + 0 ≤ _)⟩)
  dsimp only [Pt.U, Pt.locs, Pt.cells, Pt.slots] at X1 l1 y1 z1 st1 hQ1
  subst l1 y1 z1
  obtain ⟨rfl, N1q, e1⟩ := hQ1
  have N1 := Fr.app N0 N1q
  obtain ⟨fs, hr, hrun, hended, hW, hsame⟩ := X1.leave (v := some (.int 0)) (fun h => by rw [Bd.returns] at h; cases h)
  refine ⟨_, _, pre0 _ ?_, hrun, hended, _, _, rfl, ?_, ⟨_, rfl⟩, hW, hsame.mono (by decide) (by decide)⟩
  · show Steps p.tables e below (s₁.setTop (mkF m 0 #[.val (.ref a1), .val (.int 0), .val (.int 0)] [])) _
    refine XS.aloadN X0.here hx rfl (hb hby d123_2_0) rfl rfl ?_
    refine XS.iloadN X0.here hx rfl (hb hby d123_2_1) rfl ?_
    refine XS.iloadN X0.here hx rfl (hb hby d123_2_2) rfl ?_
    refine st1 _ ?_
    show Steps p.tables e below (T1.setTop (mkF m 6 #[.val (.ref a1), .val (.int 0), .val (.int 0)] [(.int 0)])) _
    refine XS.iloadN X1.here hx rfl (hb hby d123_2_6) rfl ?_
    refine XS.icmpYes X1.here hx rfl (pc0 := 7) (pc' := 14) rfl (hb hby d123_2_7) rfl (teq (by decide : (0 : Int32) = (0 : Int32))).1 (by decide) (by decide) ?_
    show Steps p.tables e below (T1.setTop (mkF m 14 #[.val (.ref a1), .val (.int 0), .val (.int 0)] [])) _
    refine XS.iconst X1.here hx rfl (hb hby d123_2_14) ?_
    exact retN X1 hx (t := .boolean) Bd.returns (by simp) (hb hby d123_2_15) hr
  · show Q_rmhN Z a1 h0 n0 _ T1.heap _
    rw [e1]
    exact ⟨rfl, N1, rfl⟩
theorem d42_46_0 : decode jdk_42_method_46_code 0 = .ok (.iload_n 0, 1) := by decide +kernel
theorem d42_46_1 : decode jdk_42_method_46_code 1 = .ok (.iconst 1, 1) := by decide +kernel
theorem d42_46_2 : decode jdk_42_method_46_code 2 = .ok (.if_icmp .ne 9, 3) := by decide +kernel
theorem d42_46_11 : decode jdk_42_method_46_code 11 = .ok (.aload_n 1, 1) := by decide +kernel
theorem d42_46_12 : decode jdk_42_method_46_code 12 = .ok (.iconst 0, 1) := by decide +kernel
theorem d42_46_13 : decode jdk_42_method_46_code 13 = .ok (.aload_n 1, 1) := by decide +kernel
theorem d42_46_14 : decode jdk_42_method_46_code 14 = .ok (.arraylength, 1) := by decide +kernel
theorem d42_46_15 : decode jdk_42_method_46_code 15 = .ok (.invokestatic 128, 3) := by decide +kernel
theorem pd_18 : parseMethodDescriptor "([BII)Z" = some ⟨[(.array .byte), .int, .int], some .boolean⟩ := by decide +kernel
theorem d42_46_18 : decode jdk_42_method_46_code 18 = .ok (.ifCond .ne 11, 3) := by decide +kernel
theorem d42_46_21 : decode jdk_42_method_46_code 21 = .ok (.aload_n 1, 1) := by decide +kernel
theorem d42_46_22 : decode jdk_42_method_46_code 22 = .ok (.invokevirtual 279, 3) := by decide +kernel
theorem d42_46_25 : decode jdk_42_method_46_code 25 = .ok (.checkcast 280, 3) := by decide +kernel
theorem d42_46_28 : decode jdk_42_method_46_code 28 = .ok (.areturn, 1) := by decide +kernel
def Q_rmeU (Z : State) (a1 : Addr) (k1 : ClassId) (h0 : Heap) (n0 : Nat) (v : Option Value) (h : Heap) (L : List Loc) : Prop := ∃ (b : Addr), v = some (.ref b) ∧ Fr n0 L ∧ Keep h0 h [] ∧ n0 ≤ b ∧ h0.size ≤ b ∧ Arv Z h b k1 .byte (0 : Int32) [] (.int 0)
theorem ef_13 (m : MethodId) (x0 : Int32) (x1 : Addr) (x2 : Int32) : entryFrame m #[(.int x0), (.ref x1), (.int x2)] 9 = mkF m 0 #[.val (.int x0), .val (.ref x1), .val (.int x2), .unset, .unset, .unset, .unset, .unset, .unset] [] := by first | (simp [entryFrame, mkF, argsToLocals, Value.category]; done) | rfl
set_option maxRecDepth 65536 in
set_option maxHeartbeats 40000000 in
theorem rmeU (l : Launch) (Z : State) (a0 : Array Value) (hw : ∀ d ∈ tables_1, d.before a0 Z = true) (ws : List Jvm.Cond) (a1 : Addr) (k1 : ClassId) (h0 : Heap) (n0 : Nat) (Z0 : n0 ≤ h0.size) (V_a1 : Arv Z h0 a1 k1 .byte (0 : Int32) [] (.int 0)) (E_a1 : Exa Z h0 a1 "[B") :
    MetFree l (⟨"java/lang/String", "encodeUTF8", "(B[BZ)[B"⟩ : MethodName) (head1 (Jvm.Cond.code (⟨"java/lang/String", "encodeUTF8", "(B[BZ)[B"⟩ : MethodName) jdk_42_method_46_code 9 (some (.array .byte)) :: ws) ({ frames := 2, cells := 1, slots := 0, locals := 30 } : Room)) (fun a U => a = #[(.int 0), (.ref a1), (.int 1)] ∧ Z.Warmed39 U.vm ∧ U.heap = h0) (fun _ _ _ _ _ => True) (fun _ U o U' => ∃ v L, o = .returned v ∧ Q_rmeU Z a1 k1 h0 n0 v U'.heap L ∧ FrameEnd U o U' L ({ frames := 2, cells := 1, slots := 0, locals := 30 } : Room).cells ({ frames := 2, cells := 1, slots := 0, locals := 30 } : Room).slots) := by
  refine MetFree.of_bodySF (plainFor_of_name pn_0) hisR ?_
  intro p e s m args below meth c s₁ Bd hml0 hP hK
  obtain ⟨rfl, hZ, hh⟩ := hP
  have hx := Bd.exec
  have hby := Bd.bytes
  have hml : c.maxLocals = 9 := hml0
  have hown : s.vm.findClass "java/lang/String" = some m.cls := findClass_of_methodNamed Bd.named
  have hnm := (name_of_methodNamed Bd.named Bd.method).1
  have X0 : Stand p l e ({ frames := 2, cells := 1, slots := 0, locals := 30 } : Room) s m #[(.int 0), (.ref a1), (.int 1)] below meth c s₁ [] 0 0 := Stand.of_body Bd
  have e0 : s₁.heap = h0 := by rw [← hh, Bd.state]; rfl
  have N0 := Fr.nil n0
  have pre0 : ∀ t, Steps p.tables e below (s₁.setTop (mkF m 0 #[.val (.int 0), .val (.ref a1), .val (.int 1), .unset, .unset, .unset, .unset, .unset, .unset] [])) t → Steps p.tables e below (s₁.setTop (entryFrame m #[(.int 0), (.ref a1), (.int 1)] 9)) t := fun t k => castTop (ef_13 m (0 : Int32) a1 (1 : Int32)) k
  obtain ⟨cl1, Ar1, q1, S1, M1, H1, G1⟩ := id V_a1
  obtain ⟨_, _, ⟨T2, LL2, kk2, nn2⟩, -, X2, ⟨Lc2, hQ2, l2, y2, z2⟩, st2⟩ := Jvm.LawKit.callS X0 hx (y := (⟨"java/lang/StringCoding", "hasNegatives", "([BII)Z"⟩ : MethodName)) hown (mvT hZ (own_t hw 75 rfl)) (mvT hZ (own_t hw 76 rfl)) (mvT hZ (own_t hw 77 rfl)) (mvT hZ (own_t hw 78 rfl)) (by decide) (backOf (W := 0) (rmhN l Z a0 hw [] a1 h0 n0 Z0 ) hZ (own_t hw 78 rfl) (own_t hw 77 rfl) (by decide) (by decide)) (g := (mkF m 15 #[.val (.int 0), .val (.ref a1), .val (.int 1), .unset, .unset, .unset, .unset, .unset, .unset] [(.int 0), (.int 0), (.ref a1)])) rfl (by rw [hml]; rfl) (argsL := [(.ref a1), (.int 0), (.int 0)]) (rest := []) (lenOf pd_18 rfl) rfl (by show 2 * 0 + _ ≤ _; exact Nat.le_of_eq rfl) (hb hby d42_46_15) (fun _ _ => ⟨rfl, e0, (by decide : 0 + 0 ≤ _), (by decide : 0 + 0 ≤ _)⟩)
  dsimp only [Pt.U, Pt.locs, Pt.cells, Pt.slots] at X2 l2 y2 z2 st2 hQ2
  subst l2 y2 z2
  obtain ⟨rfl, N2q, e2⟩ := hQ2
  have N2 := Fr.app N0 N2q
  obtain ⟨T3, h3, X3, e3, E3, A3, EX3, st3⟩ := cloneH X2 hx hZ hown (own_t hw 82 rfl) (own_t hw 83 rfl) (own_t hw 87 rfl) (own_t hw 85 rfl) (own_t hw 86 rfl) (own_t hw 88 rfl) e2 (Arv.arh V_a1) E_a1 (g := (mkF m 22 #[.val (.int 0), .val (.ref a1), .val (.int 1), .unset, .unset, .unset, .unset, .unset, .unset] [(.ref a1)])) rfl (by rw [hml]; rfl) rfl (hb hby d42_46_22) (by decide) (W := 0) (cap := 0) (by show 2 * 0 + _ ≤ _; exact Nat.le_of_eq rfl) (by decide) (by decide) (by decide) (by decide)
  obtain ⟨b3, gg3⟩ : ∃ z, z = h0.size := ⟨_, rfl⟩
  rw [← gg3] at A3 EX3 st3
  have g_b3 : n0 ≤ b3 := Nat.le_trans Z0 (Nat.le_of_eq gg3.symm)
  have sz_b3 : h0.size ≤ b3 := Nat.le_trans (Keep.refl h0 []).1 (Nat.le_of_eq gg3.symm)
  have Q3 : Keep h0 h3 [] := (Keep.refl h0 []).ext E3
  have V_b3 : Arv Z h3 b3 k1 .byte (0 : Int32) [] (.int 0) := A3
  obtain ⟨T4, X4, e4, st4⟩ := castY X3 hx hZ hown (own_t hw 89 rfl) e3 (Ins.self EX3) (g := (mkF m 25 #[.val (.int 0), .val (.ref a1), .val (.int 1), .unset, .unset, .unset, .unset, .unset, .unset] [(.ref b3)])) rfl rfl (hb hby d42_46_25)
  obtain ⟨fs, hr, hrun, hended, hW, hsame⟩ := X4.leave (v := some (.ref b3)) (fun h => by rw [Bd.returns] at h; cases h)
  refine ⟨_, _, pre0 _ ?_, hrun, hended, _, _, rfl, ?_, ⟨_, rfl⟩, hW, hsame.mono (by decide) (by decide)⟩
  · show Steps p.tables e below (s₁.setTop (mkF m 0 #[.val (.int 0), .val (.ref a1), .val (.int 1), .unset, .unset, .unset, .unset, .unset, .unset] [])) _
    refine XS.iloadN X0.here hx rfl (hb hby d42_46_0) rfl ?_
    refine XS.iconst X0.here hx rfl (hb hby d42_46_1) ?_
    refine XS.icmpYes X0.here hx rfl (pc0 := 2) (pc' := 11) rfl (hb hby d42_46_2) rfl (feq (by decide : ¬ ((0 : Int32) = (1 : Int32)))).2 (by decide) (by decide) ?_
    show Steps p.tables e below (s₁.setTop (mkF m 11 #[.val (.int 0), .val (.ref a1), .val (.int 1), .unset, .unset, .unset, .unset, .unset, .unset] [])) _
    refine XS.aloadN X0.here hx rfl (hb hby d42_46_11) rfl rfl ?_
    refine XS.iconst X0.here hx rfl (hb hby d42_46_12) ?_
    refine XS.aloadN X0.here hx rfl (hb hby d42_46_13) rfl rfl ?_
    refine X0.arraylength hx (by rw [e0]; exact Ar1.1) (State.isArrayOf_alike hZ.alike Ar1.2.1) (g := (mkF m 14 #[.val (.int 0), .val (.ref a1), .val (.int 1), .unset, .unset, .unset, .unset, .unset, .unset] [(.ref a1), (.int 0), (.ref a1)])) rfl rfl (hb hby d42_46_14) _ ?_
    rw [len_of S1 M1]
    show Steps p.tables e below (s₁.setTop (mkF m 15 #[.val (.int 0), .val (.ref a1), .val (.int 1), .unset, .unset, .unset, .unset, .unset, .unset] [(.int 0), (.int 0), (.ref a1)])) _
    refine st2 _ ?_
    show Steps p.tables e below (T2.setTop (mkF m 18 #[.val (.int 0), .val (.ref a1), .val (.int 1), .unset, .unset, .unset, .unset, .unset, .unset] [(.int 0)])) _
    refine XS.ifNo X2.here hx rfl (hb hby d42_46_18) rfl ((if0 _ _).trans (teq (by decide : (0 : Int32) = (0 : Int32))).2) ?_
    show Steps p.tables e below (T2.setTop (mkF m 21 #[.val (.int 0), .val (.ref a1), .val (.int 1), .unset, .unset, .unset, .unset, .unset, .unset] [])) _
    refine XS.aloadN X2.here hx rfl (hb hby d42_46_21) rfl rfl ?_
    refine st3 _ ?_
    show Steps p.tables e below (T3.setTop (mkF m 25 #[.val (.int 0), .val (.ref a1), .val (.int 1), .unset, .unset, .unset, .unset, .unset, .unset] [(.ref b3)])) _
    refine st4 _ ?_
    show Steps p.tables e below (T4.setTop (mkF m 28 #[.val (.int 0), .val (.ref a1), .val (.int 1), .unset, .unset, .unset, .unset, .unset, .unset] [(.ref b3)])) _
    exact X4.areturnOut hx rfl Bd.returns rfl (hb hby d42_46_28) hr
  · show Q_rmeU Z a1 k1 h0 n0 _ T4.heap _
    rw [e4]
    exact ⟨b3, rfl, N2, Q3, g_b3, sz_b3, V_b3⟩
theorem d42_18_0 : decode jdk_42_method_18_code 0 = .ok (.aload_n 0, 1) := by decide +kernel
theorem d42_18_1 : decode jdk_42_method_18_code 1 = .ok (.getstatic 86, 3) := by decide +kernel
theorem d42_18_4 : decode jdk_42_method_18_code 4 = .ok (.if_acmp .ne 10, 3) := by decide +kernel
theorem d42_18_7 : decode jdk_42_method_18_code 7 = .ok (.iload_n 1, 1) := by decide +kernel
theorem d42_18_8 : decode jdk_42_method_18_code 8 = .ok (.aload_n 2, 1) := by decide +kernel
theorem d42_18_9 : decode jdk_42_method_18_code 9 = .ok (.iconst 1, 1) := by decide +kernel
theorem d42_18_10 : decode jdk_42_method_18_code 10 = .ok (.invokestatic 252, 3) := by decide +kernel
theorem pd_19 : parseMethodDescriptor "(B[BZ)[B" = some ⟨[.byte, (.array .byte), .boolean], some (.array .byte)⟩ := by decide +kernel
theorem d42_18_13 : decode jdk_42_method_18_code 13 = .ok (.areturn, 1) := by decide +kernel
def Q_rmen (Z : State) (cu : Addr) (a1 : Addr) (k1 : ClassId) (h0 : Heap) (n0 : Nat) (v : Option Value) (h : Heap) (L : List Loc) : Prop := ∃ (b : Addr), v = some (.ref b) ∧ Fr n0 L ∧ Keep h0 h [] ∧ n0 ≤ b ∧ h0.size ≤ b ∧ Arv Z h b k1 .byte (0 : Int32) [] (.int 0)
set_option maxRecDepth 65536 in
set_option maxHeartbeats 40000000 in
theorem rmen (l : Launch) (Z : State) (a0 : Array Value) (hw : ∀ d ∈ tables_1, d.before a0 Z = true) (ws : List Jvm.Cond) (cu : Addr) (a1 : Addr) (k1 : ClassId) (h0 : Heap) (n0 : Nat) (Z0 : n0 ≤ h0.size) (V_a1 : Arv Z h0 a1 k1 .byte (0 : Int32) [] (.int 0)) (E_a1 : Exa Z h0 a1 "[B") (S_INSTANCE_ : Sta Z h0 "sun/nio/cs/UTF_8" "INSTANCE" "Lsun/nio/cs/UTF_8;" (.ref cu)) :
    MetFree l (⟨"java/lang/String", "encode", "(Ljava/nio/charset/Charset;B[B)[B"⟩ : MethodName) (head1 (Jvm.Cond.code (⟨"java/lang/String", "encode", "(Ljava/nio/charset/Charset;B[B)[B"⟩ : MethodName) jdk_42_method_18_code 3 (some (.array .byte)) :: ws) ({ frames := 3, cells := 1, slots := 0, locals := 50 } : Room)) (fun a U => a = #[(.ref cu), (.int 0), (.ref a1)] ∧ Z.Warmed39 U.vm ∧ U.heap = h0) (fun _ _ _ _ _ => True) (fun _ U o U' => ∃ v L, o = .returned v ∧ Q_rmen Z cu a1 k1 h0 n0 v U'.heap L ∧ FrameEnd U o U' L ({ frames := 3, cells := 1, slots := 0, locals := 50 } : Room).cells ({ frames := 3, cells := 1, slots := 0, locals := 50 } : Room).slots) := by
  refine MetFree.of_bodySF (plainFor_of_name pn_0) hisR ?_
  intro p e s m args below meth c s₁ Bd hml0 hP hK
  obtain ⟨rfl, hZ, hh⟩ := hP
  have hx := Bd.exec
  have hby := Bd.bytes
  have hml : c.maxLocals = 3 := hml0
  have hown : s.vm.findClass "java/lang/String" = some m.cls := findClass_of_methodNamed Bd.named
  have hnm := (name_of_methodNamed Bd.named Bd.method).1
  have X0 : Stand p l e ({ frames := 3, cells := 1, slots := 0, locals := 50 } : Room) s m #[(.ref cu), (.int 0), (.ref a1)] below meth c s₁ [] 0 0 := Stand.of_body Bd
  have e0 : s₁.heap = h0 := by rw [← hh, Bd.state]; rfl
  have N0 := Fr.nil n0
  have pre0 : ∀ t, Steps p.tables e below (s₁.setTop (mkF m 0 #[.val (.ref cu), .val (.int 0), .val (.ref a1)] [])) t → Steps p.tables e below (s₁.setTop (entryFrame m #[(.ref cu), (.int 0), (.ref a1)] 3)) t := fun t k => castTop (ef_3 m cu (0 : Int32) a1) k
  obtain ⟨T1, X1, e1, st1⟩ := getS2 X0 hx hZ hown (host := "") (Or.inl (own_t hw 70 rfl)) Via.refl e0 S_INSTANCE_ (g := (mkF m 1 #[.val (.ref cu), .val (.int 0), .val (.ref a1)] [(.ref cu)])) rfl (hb hby d42_18_1)
  obtain ⟨_, _, ⟨T2, LL2, kk2, nn2⟩, -, X2, ⟨Lc2, hQ2, l2, y2, z2⟩, st2⟩ := Jvm.LawKit.callS X1 hx (y := (⟨"java/lang/String", "encodeUTF8", "(B[BZ)[B"⟩ : MethodName)) hown (mvT hZ (own_t hw 72 rfl)) (mvT hZ (own_t hw 73 rfl)) (mvT hZ (own_t hw 3 rfl)) (mvT hZ (own_t hw 74 rfl)) (by decide) (backOf (W := 0) (rmeU l Z a0 hw [] a1 k1 h0 n0 Z0 V_a1 E_a1) hZ (own_t hw 74 rfl) (own_t hw 3 rfl) (by decide) (by decide)) (g := (mkF m 10 #[.val (.ref cu), .val (.int 0), .val (.ref a1)] [(.int 1), (.ref a1), (.int 0)])) rfl (by rw [hml]; rfl) (argsL := [(.int 0), (.ref a1), (.int 1)]) (rest := []) (lenOf pd_19 rfl) rfl (by show 2 * 0 + _ ≤ _; exact Nat.le_of_eq rfl) (hb hby d42_18_10) (fun _ _ => ⟨rfl, e1, (by decide : 0 + 1 ≤ _), (by decide : 0 + 0 ≤ _)⟩)
  dsimp only [Pt.U, Pt.locs, Pt.cells, Pt.slots] at X2 l2 y2 z2 st2 hQ2
  subst l2 y2 z2
  obtain ⟨b_2, rfl, N2q, K2, g_b_2, sq_b_2, p2_0⟩ := hQ2
  have N2 := Fr.app N0 N2q
  have sz_b_2 : h0.size ≤ b_2 := Nat.le_trans (Keep.refl h0 []).1 sq_b_2
  have Q2 : Keep h0 T2.heap [] := (Keep.refl h0 []).trans K2 all0
  obtain ⟨fs, hr, hrun, hended, hW, hsame⟩ := X2.leave (v := some (.ref b_2)) (fun h => by rw [Bd.returns] at h; cases h)
  refine ⟨_, _, pre0 _ ?_, hrun, hended, _, _, rfl, ?_, ⟨_, rfl⟩, hW, hsame.mono (by decide) (by decide)⟩
  · show Steps p.tables e below (s₁.setTop (mkF m 0 #[.val (.ref cu), .val (.int 0), .val (.ref a1)] [])) _
    refine XS.aloadN X0.here hx rfl (hb hby d42_18_0) rfl rfl ?_
    refine st1 _ ?_
    show Steps p.tables e below (T1.setTop (mkF m 4 #[.val (.ref cu), .val (.int 0), .val (.ref a1)] [(.ref cu), (.ref cu)])) _
    refine Jvm.RoadKit.acmp (g := (mkF m 4 #[.val (.ref cu), .val (.int 0), .val (.ref a1)] [(.ref cu), (.ref cu)])) X1 hx rfl rfl rfl (pc0 := 4) (pc' := 7) (same := true) rfl (hb hby d42_18_4) rfl (decide_eq_true rfl) (by decide) (by decide) ?_
    show Steps p.tables e below (T1.setTop (mkF m 7 #[.val (.ref cu), .val (.int 0), .val (.ref a1)] [])) _
    refine XS.iloadN X1.here hx rfl (hb hby d42_18_7) rfl ?_
    refine XS.aloadN X1.here hx rfl (hb hby d42_18_8) rfl rfl ?_
    refine XS.iconst X1.here hx rfl (hb hby d42_18_9) ?_
    refine st2 _ ?_
    show Steps p.tables e below (T2.setTop (mkF m 13 #[.val (.ref cu), .val (.int 0), .val (.ref a1)] [(.ref b_2)])) _
    exact X2.areturnOut hx rfl Bd.returns rfl (hb hby d42_18_13) hr
  · show Q_rmen Z cu a1 k1 h0 n0 _ T2.heap _
    exact ⟨b_2, rfl, N2, Q2, g_b_2, sz_b_2, p2_0⟩
theorem d42_64_0 : decode jdk_42_method_64_code 0 = .ok (.aload_n 1, 1) := by decide +kernel
theorem d42_64_1 : decode jdk_42_method_64_code 1 = .ok (.ifnonnull 11, 3) := by decide +kernel
theorem d42_64_12 : decode jdk_42_method_64_code 12 = .ok (.aload_n 1, 1) := by decide +kernel
theorem d42_64_13 : decode jdk_42_method_64_code 13 = .ok (.aload_n 0, 1) := by decide +kernel
theorem d42_64_14 : decode jdk_42_method_64_code 14 = .ok (.invokevirtual 335, 3) := by decide +kernel
theorem d42_64_17 : decode jdk_42_method_64_code 17 = .ok (.aload_n 0, 1) := by decide +kernel
theorem d42_64_18 : decode jdk_42_method_64_code 18 = .ok (.getfield 9, 3) := by decide +kernel
theorem d42_64_21 : decode jdk_42_method_64_code 21 = .ok (.invokestatic 535, 3) := by decide +kernel
theorem pd_20 : parseMethodDescriptor "(Ljava/nio/charset/Charset;B[B)[B" = some ⟨[(.object "java/nio/charset/Charset"), .byte, (.array .byte)], some (.array .byte)⟩ := by decide +kernel
theorem d42_64_24 : decode jdk_42_method_64_code 24 = .ok (.areturn, 1) := by decide +kernel
def Q_rmgB (Z : State) (a1 : Addr) (cu : Addr) (t1 : Addr) (k1 : ClassId) (zc : Int32) (h0 : Heap) (n0 : Nat) (v : Option Value) (h : Heap) (L : List Loc) : Prop := ∃ (b : Addr), v = some (.ref b) ∧ Fr n0 L ∧ Keep h0 h [] ∧ n0 ≤ b ∧ h0.size ≤ b ∧ Arv Z h b k1 .byte (0 : Int32) [] (.int 0)
set_option maxRecDepth 65536 in
set_option maxHeartbeats 40000000 in
theorem rmgB (l : Launch) (Z : State) (a0 : Array Value) (hw : ∀ d ∈ tables_1, d.before a0 Z = true) (ws : List Jvm.Cond) (a1 : Addr) (cu : Addr) (t1 : Addr) (k1 : ClassId) (zc : Int32) (h0 : Heap) (n0 : Nat) (Z0 : n0 ≤ h0.size) (E_a1 : Exa Z h0 a1 "java/lang/String") (F_value_a1 : Fld Z h0 a1 "java/lang/String" "value" "[B" (.ref t1)) (F_coder_a1 : Fld Z h0 a1 "java/lang/String" "coder" "B" (.int 0)) (V_t1 : Arv Z h0 t1 k1 .byte (0 : Int32) [] (.int 0)) (E_t1 : Exa Z h0 t1 "[B") (S_INSTANCE_ : Sta Z h0 "sun/nio/cs/UTF_8" "INSTANCE" "Lsun/nio/cs/UTF_8;" (.ref cu)) (S_COMPACT_STRINGS_ : Sta Z h0 "java/lang/String" "COMPACT_STRINGS" "Z" (.int zc)) (hzc : ¬ zc = 0) :
    MetFree l (⟨"java/lang/String", "getBytes", "(Ljava/nio/charset/Charset;)[B"⟩ : MethodName) (head1 (Jvm.Cond.code (⟨"java/lang/String", "getBytes", "(Ljava/nio/charset/Charset;)[B"⟩ : MethodName) jdk_42_method_64_code 2 (some (.array .byte)) :: ws) ({ frames := 4, cells := 1, slots := 0, locals := 64 } : Room)) (fun a U => a = #[(.ref a1), (.ref cu)] ∧ Z.Warmed39 U.vm ∧ U.heap = h0) (fun _ _ _ _ _ => True) (fun _ U o U' => ∃ v L, o = .returned v ∧ Q_rmgB Z a1 cu t1 k1 zc h0 n0 v U'.heap L ∧ FrameEnd U o U' L ({ frames := 4, cells := 1, slots := 0, locals := 64 } : Room).cells ({ frames := 4, cells := 1, slots := 0, locals := 64 } : Room).slots) := by
  refine MetFree.of_bodySF (plainFor_of_name pn_0) hisR ?_
  intro p e s m args below meth c s₁ Bd hml0 hP hK
  obtain ⟨rfl, hZ, hh⟩ := hP
  have hx := Bd.exec
  have hby := Bd.bytes
  have hml : c.maxLocals = 2 := hml0
  have hown : s.vm.findClass "java/lang/String" = some m.cls := findClass_of_methodNamed Bd.named
  have hnm := (name_of_methodNamed Bd.named Bd.method).1
  have X0 : Stand p l e ({ frames := 4, cells := 1, slots := 0, locals := 64 } : Room) s m #[(.ref a1), (.ref cu)] below meth c s₁ [] 0 0 := Stand.of_body Bd
  have e0 : s₁.heap = h0 := by rw [← hh, Bd.state]; rfl
  have N0 := Fr.nil n0
  have pre0 : ∀ t, Steps p.tables e below (s₁.setTop (mkF m 0 #[.val (.ref a1), .val (.ref cu)] [])) t → Steps p.tables e below (s₁.setTop (entryFrame m #[(.ref a1), (.ref cu)] 2)) t := fun t k => castTop (ef_2 m a1 cu) k
  obtain ⟨cq1, kq1, q1a, q1b, q1c⟩ := isOf hZ e0 E_a1
  obtain ⟨_, _, ⟨T1, LL1, kk1, nn1⟩, -, X1, ⟨Lc1, hQ1, l1, y1, z1⟩, st1⟩ := X0.virtualBack hx (y := (⟨"java/lang/String", "coder", "()B"⟩ : MethodName)) (z := (⟨"java/lang/String", "coder", "()B"⟩ : MethodName)) hown (mvT hZ (own_t hw 62 rfl)) (mvT hZ (own_t hw 63 rfl)) (notFace_of_selects (args := #[]) (mvT hZ (own_t hw 65 rfl))) (mvT hZ (own_t hw 65 rfl)) (mvT hZ (own_t hw 64 rfl)) (by decide) (backOf (W := 1) (rmCo l Z a0 hw [] a1 zc h0 n0 Z0 S_COMPACT_STRINGS_ (hzc) F_coder_a1) hZ (own_t hw 66 rfl) (own_t hw 3 rfl) (by decide) (by decide)) q1a q1c (g := (mkF m 14 #[.val (.ref a1), .val (.ref cu)] [(.ref a1), (.ref cu)])) rfl (by rw [hml]; rfl) (Steps.refl _) (argsL := []) (rest := [(.ref cu)]) (lenOf pd_0 rfl) rfl (by show 2 * 0 + _ ≤ _; exact Nat.le_of_eq rfl) (hb hby d42_64_14) (fun _ _ => ⟨rfl, e0, (by decide : 0 + 0 ≤ _), (by decide : 0 + 0 ≤ _)⟩)
  dsimp only [Pt.U, Pt.locs, Pt.cells, Pt.slots] at X1 l1 y1 z1 st1 hQ1
  subst l1 y1 z1
  obtain ⟨rfl, N1q, e1⟩ := hQ1
  have N1 := Fr.app N0 N1q
  obtain ⟨T2, X2, e2, st2⟩ := getF X1 hx hZ hown (host := "") (Or.inl (own_t hw 28 rfl)) Via.refl e1 F_value_a1 (g := (mkF m 18 #[.val (.ref a1), .val (.ref cu)] [(.ref a1), (.int 0), (.ref cu)])) rfl rfl (hb hby d42_64_18)
  obtain ⟨_, _, ⟨T3, LL3, kk3, nn3⟩, -, X3, ⟨Lc3, hQ3, l3, y3, z3⟩, st3⟩ := Jvm.LawKit.callS X2 hx (y := (⟨"java/lang/String", "encode", "(Ljava/nio/charset/Charset;B[B)[B"⟩ : MethodName)) hown (mvT hZ (own_t hw 67 rfl)) (mvT hZ (own_t hw 68 rfl)) (mvT hZ (own_t hw 3 rfl)) (mvT hZ (own_t hw 69 rfl)) (by decide) (backOf (W := 0) (rmen l Z a0 hw [] cu t1 k1 h0 n0 Z0 V_t1 E_t1 S_INSTANCE_) hZ (own_t hw 69 rfl) (own_t hw 3 rfl) (by decide) (by decide)) (g := (mkF m 21 #[.val (.ref a1), .val (.ref cu)] [(.ref t1), (.int 0), (.ref cu)])) rfl (by rw [hml]; rfl) (argsL := [(.ref cu), (.int 0), (.ref t1)]) (rest := []) (lenOf pd_20 rfl) rfl (by show 2 * 0 + _ ≤ _; exact Nat.le_of_eq rfl) (hb hby d42_64_21) (fun _ _ => ⟨rfl, e2, (by decide : 0 + 1 ≤ _), (by decide : 0 + 0 ≤ _)⟩)
  dsimp only [Pt.U, Pt.locs, Pt.cells, Pt.slots] at X3 l3 y3 z3 st3 hQ3
  subst l3 y3 z3
  obtain ⟨b_3, rfl, N3q, K3, g_b_3, sq_b_3, p3_0⟩ := hQ3
  have N3 := Fr.app N1 N3q
  have sz_b_3 : h0.size ≤ b_3 := Nat.le_trans (Keep.refl h0 []).1 sq_b_3
  have Q3 : Keep h0 T3.heap [] := (Keep.refl h0 []).trans K3 all0
  obtain ⟨fs, hr, hrun, hended, hW, hsame⟩ := X3.leave (v := some (.ref b_3)) (fun h => by rw [Bd.returns] at h; cases h)
  refine ⟨_, _, pre0 _ ?_, hrun, hended, _, _, rfl, ?_, ⟨_, rfl⟩, hW, hsame.mono (by decide) (by decide)⟩
  · show Steps p.tables e below (s₁.setTop (mkF m 0 #[.val (.ref a1), .val (.ref cu)] [])) _
    refine XS.aloadN X0.here hx rfl (hb hby d42_64_0) rfl rfl ?_
    refine XS.ifnonnullYes X0.here hx rfl (pc0 := 1) (pc' := 12) rfl (hb hby d42_64_1) rfl (by decide) (by decide) ?_
    show Steps p.tables e below (s₁.setTop (mkF m 12 #[.val (.ref a1), .val (.ref cu)] [])) _
    refine XS.aloadN X0.here hx rfl (hb hby d42_64_12) rfl rfl ?_
    refine XS.aloadN X0.here hx rfl (hb hby d42_64_13) rfl rfl ?_
    refine st1.trans ?_
    show Steps p.tables e below (T1.setTop (mkF m 17 #[.val (.ref a1), .val (.ref cu)] [(.int 0), (.ref cu)])) _
    refine XS.aloadN X1.here hx rfl (hb hby d42_64_17) rfl rfl ?_
    refine st2 _ ?_
    show Steps p.tables e below (T2.setTop (mkF m 21 #[.val (.ref a1), .val (.ref cu)] [(.ref t1), (.int 0), (.ref cu)])) _
    refine st3 _ ?_
    show Steps p.tables e below (T3.setTop (mkF m 24 #[.val (.ref a1), .val (.ref cu)] [(.ref b_3)])) _
    exact X3.areturnOut hx rfl Bd.returns rfl (hb hby d42_64_24) hr
  · show Q_rmgB Z a1 cu t1 k1 zc h0 n0 _ T3.heap _
    exact ⟨b_3, rfl, N3, Q3, g_b_3, sz_b_3, p3_0⟩
theorem d31_11_0 : decode jdk_31_method_11_code 0 = .ok (.aload_n 0, 1) := by decide +kernel
theorem d31_11_1 : decode jdk_31_method_11_code 1 = .ok (.ifnonnull 12, 3) := by decide +kernel
theorem d31_11_13 : decode jdk_31_method_11_code 13 = .ok (.aload_n 0, 1) := by decide +kernel
theorem d31_11_14 : decode jdk_31_method_11_code 14 = .ok (.areturn, 1) := by decide +kernel
def Q_rmrq (Z : State) (a1 : Addr) (a2 : Addr) (h0 : Heap) (n0 : Nat) (v : Option Value) (h : Heap) (L : List Loc) : Prop := v = some (.ref a1) ∧ Fr n0 L ∧ h = h0
theorem pn_6 : plainName "java/util/Objects" = true := by first | (simp [plainName, overriddenIn]; done) | decide +kernel
set_option maxRecDepth 65536 in
set_option maxHeartbeats 40000000 in
theorem rmrq (l : Launch) (Z : State) (a0 : Array Value) (hw : ∀ d ∈ tables_1, d.before a0 Z = true) (ws : List Jvm.Cond) (a1 : Addr) (a2 : Addr) (h0 : Heap) (n0 : Nat) (Z0 : n0 ≤ h0.size) :
    MetFree l (⟨"java/util/Objects", "requireNonNull", "(Ljava/lang/Object;Ljava/lang/String;)Ljava/lang/Object;"⟩ : MethodName) (head1 (Jvm.Cond.code (⟨"java/util/Objects", "requireNonNull", "(Ljava/lang/Object;Ljava/lang/String;)Ljava/lang/Object;"⟩ : MethodName) jdk_31_method_11_code 2 (some (.object "java/lang/Object")) :: ws) ({ frames := 0, cells := 0, slots := 0, locals := 0 } : Room)) (fun a U => a = #[(.ref a1), (.ref a2)] ∧ Z.Warmed39 U.vm ∧ U.heap = h0) (fun _ _ _ _ _ => True) (fun _ U o U' => ∃ v L, o = .returned v ∧ Q_rmrq Z a1 a2 h0 n0 v U'.heap L ∧ FrameEnd U o U' L ({ frames := 0, cells := 0, slots := 0, locals := 0 } : Room).cells ({ frames := 0, cells := 0, slots := 0, locals := 0 } : Room).slots) := by
  refine MetFree.of_bodySF (plainFor_of_name pn_6) hisR ?_
  intro p e s m args below meth c s₁ Bd hml0 hP hK
  obtain ⟨rfl, hZ, hh⟩ := hP
  have hx := Bd.exec
  have hby := Bd.bytes
  have hml : c.maxLocals = 2 := hml0
  have hown : s.vm.findClass "java/util/Objects" = some m.cls := findClass_of_methodNamed Bd.named
  have hnm := (name_of_methodNamed Bd.named Bd.method).1
  have X0 : Stand p l e ({ frames := 0, cells := 0, slots := 0, locals := 0 } : Room) s m #[(.ref a1), (.ref a2)] below meth c s₁ [] 0 0 := Stand.of_body Bd
  have e0 : s₁.heap = h0 := by rw [← hh, Bd.state]; rfl
  have N0 := Fr.nil n0
  have pre0 : ∀ t, Steps p.tables e below (s₁.setTop (mkF m 0 #[.val (.ref a1), .val (.ref a2)] [])) t → Steps p.tables e below (s₁.setTop (entryFrame m #[(.ref a1), (.ref a2)] 2)) t := fun t k => castTop (ef_2 m a1 a2) k
  obtain ⟨fs, hr, hrun, hended, hW, hsame⟩ := X0.leave (v := some (.ref a1)) (fun h => by rw [Bd.returns] at h; cases h)
  refine ⟨_, _, pre0 _ ?_, hrun, hended, _, _, rfl, ?_, ⟨_, rfl⟩, hW, hsame.mono (by decide) (by decide)⟩
  · show Steps p.tables e below (s₁.setTop (mkF m 0 #[.val (.ref a1), .val (.ref a2)] [])) _
    refine XS.aloadN X0.here hx rfl (hb hby d31_11_0) rfl rfl ?_
    refine XS.ifnonnullYes X0.here hx rfl (pc0 := 1) (pc' := 13) rfl (hb hby d31_11_1) rfl (by decide) (by decide) ?_
    show Steps p.tables e below (s₁.setTop (mkF m 13 #[.val (.ref a1), .val (.ref a2)] [])) _
    refine XS.aloadN X0.here hx rfl (hb hby d31_11_13) rfl rfl ?_
    exact X0.areturnOut hx rfl Bd.returns rfl (hb hby d31_11_14) hr
  · show Q_rmrq Z a1 a2 h0 n0 _ s₁.heap _
    rw [e0]
    exact ⟨rfl, N0, rfl⟩
theorem e10_3_0 : decode prog_10_method_3_code 0 = .ok (.aload_n 1, 1) := by decide +kernel
theorem e10_3_1 : decode prog_10_method_3_code 1 = .ok (.aload_n 0, 1) := by decide +kernel
theorem e10_3_2 : decode prog_10_method_3_code 2 = .ok (.invokestatic 9, 3) := by decide +kernel
theorem pd_21 : parseMethodDescriptor "(Ljava/lang/Object;Ljava/lang/String;)Ljava/lang/Object;" = some ⟨[(.object "java/lang/Object"), (.object "java/lang/String")], some (.object "java/lang/Object")⟩ := by decide +kernel
theorem e10_3_5 : decode prog_10_method_3_code 5 = .ok (.pop, 1) := by decide +kernel
theorem e10_3_6 : decode prog_10_method_3_code 6 = .ok (.aload_n 1, 1) := by decide +kernel
theorem e10_3_7 : decode prog_10_method_3_code 7 = .ok (.getstatic 68, 3) := by decide +kernel
theorem e10_3_10 : decode prog_10_method_3_code 10 = .ok (.invokevirtual 74, 3) := by decide +kernel
theorem pd_22 : parseMethodDescriptor "(Ljava/nio/charset/Charset;)[B" = some ⟨[(.object "java/nio/charset/Charset")], some (.array .byte)⟩ := by decide +kernel
theorem e10_3_13 : decode prog_10_method_3_code 13 = .ok (.arraylength, 1) := by decide +kernel
theorem e10_3_14 : decode prog_10_method_3_code 14 = .ok (.sipush 255, 3) := by decide +kernel
theorem e10_3_17 : decode prog_10_method_3_code 17 = .ok (.if_icmp .le 46, 3) := by decide +kernel
theorem e10_3_63 : decode prog_10_method_3_code 63 = .ok (.return_, 1) := by decide +kernel
def Q_rmrN (Z : State) (a1 : Addr) (a2 : Addr) (t1 : Addr) (k1 : ClassId) (cu : Addr) (zc : Int32) (h0 : Heap) (n0 : Nat) (v : Option Value) (h : Heap) (L : List Loc) : Prop := v = none ∧ Fr n0 L ∧ Keep h0 h []
theorem pn_7 : plainName "com/example/gentle_commit/gentlecommit/initiator/Message" = true := by first | (simp [plainName, overriddenIn]; done) | decide +kernel
set_option maxRecDepth 65536 in
set_option maxHeartbeats 40000000 in
theorem rmrN (l : Launch) (Z : State) (a0 : Array Value) (hw : ∀ d ∈ tables_1, d.before a0 Z = true) (ws : List Jvm.Cond) (a1 : Addr) (a2 : Addr) (t1 : Addr) (k1 : ClassId) (cu : Addr) (zc : Int32) (h0 : Heap) (n0 : Nat) (Z0 : n0 ≤ h0.size) (E_a2 : Exa Z h0 a2 "java/lang/String") (F_value_a2 : Fld Z h0 a2 "java/lang/String" "value" "[B" (.ref t1)) (F_coder_a2 : Fld Z h0 a2 "java/lang/String" "coder" "B" (.int 0)) (V_t1 : Arv Z h0 t1 k1 .byte (0 : Int32) [] (.int 0)) (E_t1 : Exa Z h0 t1 "[B") (S_UTF_8_ : Sta Z h0 "java/nio/charset/StandardCharsets" "UTF_8" "Ljava/nio/charset/Charset;" (.ref cu)) (S_INSTANCE_ : Sta Z h0 "sun/nio/cs/UTF_8" "INSTANCE" "Lsun/nio/cs/UTF_8;" (.ref cu)) (S_COMPACT_STRINGS_ : Sta Z h0 "java/lang/String" "COMPACT_STRINGS" "Z" (.int zc)) (hzc : ¬ zc = 0) :
    MetFree l (⟨"com/example/gentle_commit/gentlecommit/initiator/Message", "requireName", "(Ljava/lang/String;Ljava/lang/String;)V"⟩ : MethodName) (head1 (Jvm.Cond.code (⟨"com/example/gentle_commit/gentlecommit/initiator/Message", "requireName", "(Ljava/lang/String;Ljava/lang/String;)V"⟩ : MethodName) prog_10_method_3_code 2 none :: ws) ({ frames := 5, cells := 1, slots := 0, locals := 77 } : Room)) (fun a U => a = #[(.ref a1), (.ref a2)] ∧ Z.Warmed39 U.vm ∧ U.heap = h0) (fun _ _ _ _ _ => True) (fun _ U o U' => ∃ v L, o = .returned v ∧ Q_rmrN Z a1 a2 t1 k1 cu zc h0 n0 v U'.heap L ∧ FrameEnd U o U' L ({ frames := 5, cells := 1, slots := 0, locals := 77 } : Room).cells ({ frames := 5, cells := 1, slots := 0, locals := 77 } : Room).slots) := by
  refine MetFree.of_bodySF (plainFor_of_name pn_7) hisR ?_
  intro p e s m args below meth c s₁ Bd hml0 hP hK
  obtain ⟨rfl, hZ, hh⟩ := hP
  have hx := Bd.exec
  have hby := Bd.bytes
  have hml : c.maxLocals = 2 := hml0
  have hown : s.vm.findClass "com/example/gentle_commit/gentlecommit/initiator/Message" = some m.cls := findClass_of_methodNamed Bd.named
  have hnm := (name_of_methodNamed Bd.named Bd.method).1
  have X0 : Stand p l e ({ frames := 5, cells := 1, slots := 0, locals := 77 } : Room) s m #[(.ref a1), (.ref a2)] below meth c s₁ [] 0 0 := Stand.of_body Bd
  have e0 : s₁.heap = h0 := by rw [← hh, Bd.state]; rfl
  have N0 := Fr.nil n0
  have pre0 : ∀ t, Steps p.tables e below (s₁.setTop (mkF m 0 #[.val (.ref a1), .val (.ref a2)] [])) t → Steps p.tables e below (s₁.setTop (entryFrame m #[(.ref a1), (.ref a2)] 2)) t := fun t k => castTop (ef_2 m a1 a2) k
  obtain ⟨_, _, ⟨T1, LL1, kk1, nn1⟩, -, X1, ⟨Lc1, hQ1, l1, y1, z1⟩, st1⟩ := Jvm.LawKit.callS X0 hx (y := (⟨"java/util/Objects", "requireNonNull", "(Ljava/lang/Object;Ljava/lang/String;)Ljava/lang/Object;"⟩ : MethodName)) hown (mvT hZ (own_t hw 46 rfl)) (mvT hZ (own_t hw 47 rfl)) (mvT hZ (own_t hw 48 rfl)) (mvT hZ (own_t hw 49 rfl)) (by decide) (backOf (W := 0) (rmrq l Z a0 hw [] a2 a1 h0 n0 Z0 ) hZ (own_t hw 49 rfl) (own_t hw 48 rfl) (by decide) (by decide)) (g := (mkF m 2 #[.val (.ref a1), .val (.ref a2)] [(.ref a1), (.ref a2)])) rfl (by rw [hml]; rfl) (argsL := [(.ref a2), (.ref a1)]) (rest := []) (lenOf pd_21 rfl) rfl (by show 2 * 0 + _ ≤ _; exact Nat.le_of_eq rfl) (hb hby e10_3_2) (fun _ _ => ⟨rfl, e0, (by decide : 0 + 0 ≤ _), (by decide : 0 + 0 ≤ _)⟩)
  dsimp only [Pt.U, Pt.locs, Pt.cells, Pt.slots] at X1 l1 y1 z1 st1 hQ1
  subst l1 y1 z1
  obtain ⟨rfl, N1q, e1⟩ := hQ1
  have N1 := Fr.app N0 N1q
  obtain ⟨T2, X2, e2, st2⟩ := getS2 X1 hx hZ hown (host := "") (Or.inl (own_t hw 55 rfl)) Via.refl e1 S_UTF_8_ (g := (mkF m 7 #[.val (.ref a1), .val (.ref a2)] [(.ref a2)])) rfl (hb hby e10_3_7)
  obtain ⟨cq3, kq3, q3a, q3b, q3c⟩ := isOf hZ e2 E_a2
  obtain ⟨_, _, ⟨T3, LL3, kk3, nn3⟩, -, X3, ⟨Lc3, hQ3, l3, y3, z3⟩, st3⟩ := X2.virtualBack hx (y := (⟨"java/lang/String", "getBytes", "(Ljava/nio/charset/Charset;)[B"⟩ : MethodName)) (z := (⟨"java/lang/String", "getBytes", "(Ljava/nio/charset/Charset;)[B"⟩ : MethodName)) hown (mvT hZ (own_t hw 57 rfl)) (mvT hZ (own_t hw 58 rfl)) (notFace_of_selects (args := #[]) (mvT hZ (own_t hw 60 rfl))) (mvT hZ (own_t hw 60 rfl)) (mvT hZ (own_t hw 59 rfl)) (by decide) (backOf (W := 0) (rmgB l Z a0 hw [] a2 cu t1 k1 zc h0 n0 Z0 E_a2 F_value_a2 F_coder_a2 V_t1 E_t1 S_INSTANCE_ S_COMPACT_STRINGS_ (hzc)) hZ (own_t hw 61 rfl) (own_t hw 3 rfl) (by decide) (by decide)) q3a q3c (g := (mkF m 10 #[.val (.ref a1), .val (.ref a2)] [(.ref cu), (.ref a2)])) rfl (by rw [hml]; rfl) (Steps.refl _) (argsL := [(.ref cu)]) (rest := []) (lenOf pd_22 rfl) rfl (by show 2 * 0 + _ ≤ _; exact Nat.le_of_eq rfl) (hb hby e10_3_10) (fun _ _ => ⟨rfl, e2, (by decide : 0 + 1 ≤ _), (by decide : 0 + 0 ≤ _)⟩)
  dsimp only [Pt.U, Pt.locs, Pt.cells, Pt.slots] at X3 l3 y3 z3 st3 hQ3
  subst l3 y3 z3
  obtain ⟨b_3, rfl, N3q, K3, g_b_3, sq_b_3, p3_0⟩ := hQ3
  have N3 := Fr.app N1 N3q
  have sz_b_3 : h0.size ≤ b_3 := Nat.le_trans (Keep.refl h0 []).1 sq_b_3
  have Q3 : Keep h0 T3.heap [] := (Keep.refl h0 []).trans K3 all0
  obtain ⟨cl4, Ar4, q4, S4, M4, H4, G4⟩ := id p3_0
  obtain ⟨fs, hr, hrun, hended, hW, hsame⟩ := X3.leave (v := none) (fun _ => rfl)
  refine ⟨_, _, pre0 _ ?_, hrun, hended, _, _, rfl, ?_, ⟨_, rfl⟩, hW, hsame.mono (by decide) (by decide)⟩
  · show Steps p.tables e below (s₁.setTop (mkF m 0 #[.val (.ref a1), .val (.ref a2)] [])) _
    refine XS.aloadN X0.here hx rfl (hb hby e10_3_0) rfl rfl ?_
    refine XS.aloadN X0.here hx rfl (hb hby e10_3_1) rfl rfl ?_
    refine st1 _ ?_
    show Steps p.tables e below (T1.setTop (mkF m 5 #[.val (.ref a1), .val (.ref a2)] [(.ref a2)])) _
    refine XS.pop X1.here hx rfl (hb hby e10_3_5) rfl rfl ?_
    refine XS.aloadN X1.here hx rfl (hb hby e10_3_6) rfl rfl ?_
    refine st2 _ ?_
    show Steps p.tables e below (T2.setTop (mkF m 10 #[.val (.ref a1), .val (.ref a2)] [(.ref cu), (.ref a2)])) _
    refine st3.trans ?_
    show Steps p.tables e below (T3.setTop (mkF m 13 #[.val (.ref a1), .val (.ref a2)] [(.ref b_3)])) _
    refine X3.arraylength hx (by exact Ar4.1) (State.isArrayOf_alike hZ.alike Ar4.2.1) (g := (mkF m 13 #[.val (.ref a1), .val (.ref a2)] [(.ref b_3)])) rfl rfl (hb hby e10_3_13) _ ?_
    rw [len_of S4 M4]
    show Steps p.tables e below (T3.setTop (mkF m 14 #[.val (.ref a1), .val (.ref a2)] [(.int 0)])) _
    refine XS.sipush X3.here hx rfl (hb hby e10_3_14) ?_
    refine XS.icmpYes X3.here hx rfl (pc0 := 17) (pc' := 63) rfl (hb hby e10_3_17) rfl (flt (by decide : ¬ ((255 : Int32) < (0 : Int32)))).2.2.2 (by decide) (by decide) ?_
    show Steps p.tables e below (T3.setTop (mkF m 63 #[.val (.ref a1), .val (.ref a2)] [])) _
    exact X3.returnOut hx Bd.returns (hb hby e10_3_63) hr
  · show Q_rmrN Z a1 a2 t1 k1 cu zc h0 n0 _ T3.heap _
    exact ⟨rfl, N3, Q3⟩
theorem d30_1_0 : decode jdk_30_method_1_code 0 = .ok (.aload_n 0, 1) := by decide +kernel
theorem d30_1_1 : decode jdk_30_method_1_code 1 = .ok (.invokespecial 1, 3) := by decide +kernel
theorem d30_1_4 : decode jdk_30_method_1_code 4 = .ok (.return_, 1) := by decide +kernel
def Q_rmRc (Z : State) (a1 : Addr) (h0 : Heap) (n0 : Nat) (v : Option Value) (h : Heap) (L : List Loc) : Prop := v = none ∧ Fr n0 L ∧ h = h0
theorem pn_8 : plainName "java/lang/Record" = true := by first | (simp [plainName, overriddenIn]; done) | decide +kernel
set_option maxRecDepth 65536 in
set_option maxHeartbeats 40000000 in
theorem rmRc (l : Launch) (Z : State) (a0 : Array Value) (hw : ∀ d ∈ tables_1, d.before a0 Z = true) (ws : List Jvm.Cond) (a1 : Addr) (h0 : Heap) (n0 : Nat) (Z0 : n0 ≤ h0.size) :
    MetFree l (⟨"java/lang/Record", "<init>", "()V"⟩ : MethodName) (head1 (Jvm.Cond.code (⟨"java/lang/Record", "<init>", "()V"⟩ : MethodName) jdk_30_method_1_code 1 none :: ws) ({ frames := 1, cells := 0, slots := 0, locals := 12 } : Room)) (fun a U => a = #[(.ref a1)] ∧ Z.Warmed39 U.vm ∧ U.heap = h0) (fun _ _ _ _ _ => True) (fun _ U o U' => ∃ v L, o = .returned v ∧ Q_rmRc Z a1 h0 n0 v U'.heap L ∧ FrameEnd U o U' L ({ frames := 1, cells := 0, slots := 0, locals := 12 } : Room).cells ({ frames := 1, cells := 0, slots := 0, locals := 12 } : Room).slots) := by
  refine MetFree.of_bodySF (plainFor_of_name pn_8) hisR ?_
  intro p e s m args below meth c s₁ Bd hml0 hP hK
  obtain ⟨rfl, hZ, hh⟩ := hP
  have hx := Bd.exec
  have hby := Bd.bytes
  have hml : c.maxLocals = 1 := hml0
  have hown : s.vm.findClass "java/lang/Record" = some m.cls := findClass_of_methodNamed Bd.named
  have hnm := (name_of_methodNamed Bd.named Bd.method).1
  have X0 : Stand p l e ({ frames := 1, cells := 0, slots := 0, locals := 12 } : Room) s m #[(.ref a1)] below meth c s₁ [] 0 0 := Stand.of_body Bd
  have e0 : s₁.heap = h0 := by rw [← hh, Bd.state]; rfl
  have N0 := Fr.nil n0
  have pre0 : ∀ t, Steps p.tables e below (s₁.setTop (mkF m 0 #[.val (.ref a1)] [])) t → Steps p.tables e below (s₁.setTop (entryFrame m #[(.ref a1)] 1)) t := fun t k => castTop (ef_0 m a1) k
  obtain ⟨T1, X1, e1, st1⟩ := initO X0 hx hZ hown (own_t hw 44 rfl) (own_t hw 12 rfl) (own_t hw 13 rfl) e0 (g := (mkF m 1 #[.val (.ref a1)] [(.ref a1)])) rfl (by rw [hml]; rfl) rfl (hb hby d30_1_1) (by decide) (W := 0) (by show 2 * 0 + _ ≤ _; exact Nat.le_of_eq rfl) (by decide)
  obtain ⟨fs, hr, hrun, hended, hW, hsame⟩ := X1.leave (v := none) (fun _ => rfl)
  refine ⟨_, _, pre0 _ ?_, hrun, hended, _, _, rfl, ?_, ⟨_, rfl⟩, hW, hsame.mono (by decide) (by decide)⟩
  · show Steps p.tables e below (s₁.setTop (mkF m 0 #[.val (.ref a1)] [])) _
    refine XS.aloadN X0.here hx rfl (hb hby d30_1_0) rfl rfl ?_
    refine st1 _ ?_
    show Steps p.tables e below (T1.setTop (mkF m 4 #[.val (.ref a1)] [])) _
    exact X1.returnOut hx Bd.returns (hb hby d30_1_4) hr
  · show Q_rmRc Z a1 h0 n0 _ T1.heap _
    rw [e1]
    exact ⟨rfl, N0, rfl⟩
theorem e10_1_0 : decode prog_10_method_1_code 0 = .ok (.aload_n 0, 1) := by decide +kernel
theorem e10_1_1 : decode prog_10_method_1_code 1 = .ok (.invokespecial 1, 3) := by decide +kernel
theorem pd_23 : parseMethodDescriptor "()V" = some ⟨[], none⟩ := by decide +kernel
theorem e10_1_4 : decode prog_10_method_1_code 4 = .ok (.aload_n 1, 1) := by decide +kernel
theorem e10_1_5 : decode prog_10_method_1_code 5 = .ok (.ldc 7, 2) := by decide +kernel
theorem e10_1_7 : decode prog_10_method_1_code 7 = .ok (.invokestatic 9, 3) := by decide +kernel
theorem e10_1_10 : decode prog_10_method_1_code 10 = .ok (.pop, 1) := by decide +kernel
theorem e10_1_11 : decode prog_10_method_1_code 11 = .ok (.aload_n 2, 1) := by decide +kernel
theorem e10_1_12 : decode prog_10_method_1_code 12 = .ok (.ldc 15, 2) := by decide +kernel
theorem e10_1_14 : decode prog_10_method_1_code 14 = .ok (.invokestatic 9, 3) := by decide +kernel
theorem e10_1_17 : decode prog_10_method_1_code 17 = .ok (.pop, 1) := by decide +kernel
theorem e10_1_18 : decode prog_10_method_1_code 18 = .ok (.ldc 17, 2) := by decide +kernel
theorem e10_1_20 : decode prog_10_method_1_code 20 = .ok (.aload 4, 2) := by decide +kernel
theorem e10_1_22 : decode prog_10_method_1_code 22 = .ok (.invokestatic 19, 3) := by decide +kernel
theorem pd_24 : parseMethodDescriptor "(Ljava/lang/String;Ljava/lang/String;)V" = some ⟨[(.object "java/lang/String"), (.object "java/lang/String")], none⟩ := by decide +kernel
theorem e10_1_25 : decode prog_10_method_1_code 25 = .ok (.ldc 25, 2) := by decide +kernel
theorem e10_1_27 : decode prog_10_method_1_code 27 = .ok (.aload 5, 2) := by decide +kernel
theorem e10_1_29 : decode prog_10_method_1_code 29 = .ok (.invokestatic 19, 3) := by decide +kernel
theorem e10_1_32 : decode prog_10_method_1_code 32 = .ok (.aload 6, 2) := by decide +kernel
theorem e10_1_34 : decode prog_10_method_1_code 34 = .ok (.invokevirtual 27, 3) := by decide +kernel
theorem e10_1_37 : decode prog_10_method_1_code 37 = .ok (.checkcast 28, 3) := by decide +kernel
theorem e10_1_40 : decode prog_10_method_1_code 40 = .ok (.astore 6, 2) := by decide +kernel
theorem e10_1_42 : decode prog_10_method_1_code 42 = .ok (.aload_n 0, 1) := by decide +kernel
theorem e10_1_43 : decode prog_10_method_1_code 43 = .ok (.aload_n 1, 1) := by decide +kernel
theorem e10_1_44 : decode prog_10_method_1_code 44 = .ok (.putfield 33, 3) := by decide +kernel
theorem e10_1_47 : decode prog_10_method_1_code 47 = .ok (.aload_n 0, 1) := by decide +kernel
theorem e10_1_48 : decode prog_10_method_1_code 48 = .ok (.aload_n 2, 1) := by decide +kernel
theorem e10_1_49 : decode prog_10_method_1_code 49 = .ok (.putfield 36, 3) := by decide +kernel
theorem e10_1_52 : decode prog_10_method_1_code 52 = .ok (.aload_n 0, 1) := by decide +kernel
theorem e10_1_53 : decode prog_10_method_1_code 53 = .ok (.iload_n 3, 1) := by decide +kernel
theorem e10_1_54 : decode prog_10_method_1_code 54 = .ok (.putfield 38, 3) := by decide +kernel
theorem e10_1_57 : decode prog_10_method_1_code 57 = .ok (.aload_n 0, 1) := by decide +kernel
theorem e10_1_58 : decode prog_10_method_1_code 58 = .ok (.aload 4, 2) := by decide +kernel
theorem e10_1_60 : decode prog_10_method_1_code 60 = .ok (.putfield 42, 3) := by decide +kernel
theorem e10_1_63 : decode prog_10_method_1_code 63 = .ok (.aload_n 0, 1) := by decide +kernel
theorem e10_1_64 : decode prog_10_method_1_code 64 = .ok (.aload 5, 2) := by decide +kernel
theorem e10_1_66 : decode prog_10_method_1_code 66 = .ok (.putfield 44, 3) := by decide +kernel
theorem e10_1_69 : decode prog_10_method_1_code 69 = .ok (.aload_n 0, 1) := by decide +kernel
theorem e10_1_70 : decode prog_10_method_1_code 70 = .ok (.aload 6, 2) := by decide +kernel
theorem e10_1_72 : decode prog_10_method_1_code 72 = .ok (.putfield 47, 3) := by decide +kernel
theorem e10_1_75 : decode prog_10_method_1_code 75 = .ok (.return_, 1) := by decide +kernel
def Q_rmMI (Z : State) (a1 : Addr) (a2 : Addr) (a3 : Addr) (p4 : Int32) (a5 : Addr) (a6 : Addr) (a7 : Addr) (ta : Addr) (ka : ClassId) (tb : Addr) (kb : ClassId) (kc : ClassId) (cu : Addr) (zc : Int32) (h0 : Heap) (n0 : Nat) (v : Option Value) (h : Heap) (L : List Loc) : Prop := v = none ∧ Fr n0 L ∧ Keep h0 h [a1] ∧ Fld Z h a1 "com/example/gentle_commit/gentlecommit/initiator/Message" "id" "Ljava/lang/String;" (.ref a2) ∧ Fld Z h a1 "com/example/gentle_commit/gentlecommit/initiator/Message" "gid" "Ljava/lang/String;" (.ref a3) ∧ Fld Z h a1 "com/example/gentle_commit/gentlecommit/initiator/Message" "reliable" "Z" (.int p4)
theorem ef_14 (m : MethodId) (x0 : Addr) (x1 : Addr) (x2 : Addr) (x3 : Int32) (x4 : Addr) (x5 : Addr) (x6 : Addr) : entryFrame m #[(.ref x0), (.ref x1), (.ref x2), (.int x3), (.ref x4), (.ref x5), (.ref x6)] 7 = mkF m 0 #[.val (.ref x0), .val (.ref x1), .val (.ref x2), .val (.int x3), .val (.ref x4), .val (.ref x5), .val (.ref x6)] [] := by first | (simp [entryFrame, mkF, argsToLocals, Value.category]; done) | rfl
set_option maxRecDepth 65536 in
set_option maxHeartbeats 40000000 in
theorem rmMI (l : Launch) (Z : State) (a0 : Array Value) (hw : ∀ d ∈ tables_1, d.before a0 Z = true) (ws : List Jvm.Cond) (a1 : Addr) (a2 : Addr) (a3 : Addr) (p4 : Int32) (a5 : Addr) (a6 : Addr) (a7 : Addr) (ta : Addr) (ka : ClassId) (tb : Addr) (kb : ClassId) (kc : ClassId) (cu : Addr) (zc : Int32) (h0 : Heap) (n0 : Nat) (Z0 : n0 ≤ h0.size) (E_a1 : Exa Z h0 a1 "com/example/gentle_commit/gentlecommit/initiator/Message") (g_a1 : n0 ≤ a1) (F_id_a1 : Fld Z h0 a1 "com/example/gentle_commit/gentlecommit/initiator/Message" "id" "Ljava/lang/String;" .null) (F_gid_a1 : Fld Z h0 a1 "com/example/gentle_commit/gentlecommit/initiator/Message" "gid" "Ljava/lang/String;" .null) (F_reliable_a1 : Fld Z h0 a1 "com/example/gentle_commit/gentlecommit/initiator/Message" "reliable" "Z" (.int 0)) (F_exchange_a1 : Fld Z h0 a1 "com/example/gentle_commit/gentlecommit/initiator/Message" "exchange" "Ljava/lang/String;" .null) (F_routingKey_a1 : Fld Z h0 a1 "com/example/gentle_commit/gentlecommit/initiator/Message" "routingKey" "Ljava/lang/String;" .null) (F_body_a1 : Fld Z h0 a1 "com/example/gentle_commit/gentlecommit/initiator/Message" "body" "[B" .null) (E_a5 : Exa Z h0 a5 "java/lang/String") (F_value_a5 : Fld Z h0 a5 "java/lang/String" "value" "[B" (.ref ta)) (F_coder_a5 : Fld Z h0 a5 "java/lang/String" "coder" "B" (.int 0)) (V_ta : Arv Z h0 ta ka .byte (0 : Int32) [] (.int 0)) (E_ta : Exa Z h0 ta "[B") (E_a6 : Exa Z h0 a6 "java/lang/String") (F_value_a6 : Fld Z h0 a6 "java/lang/String" "value" "[B" (.ref tb)) (F_coder_a6 : Fld Z h0 a6 "java/lang/String" "coder" "B" (.int 0)) (V_tb : Arv Z h0 tb kb .byte (0 : Int32) [] (.int 0)) (E_tb : Exa Z h0 tb "[B") (V_a7 : Arv Z h0 a7 kc .byte (0 : Int32) [] (.int 0)) (E_a7 : Exa Z h0 a7 "[B") (S_UTF_8_ : Sta Z h0 "java/nio/charset/StandardCharsets" "UTF_8" "Ljava/nio/charset/Charset;" (.ref cu)) (S_INSTANCE_ : Sta Z h0 "sun/nio/cs/UTF_8" "INSTANCE" "Lsun/nio/cs/UTF_8;" (.ref cu)) (S_COMPACT_STRINGS_ : Sta Z h0 "java/lang/String" "COMPACT_STRINGS" "Z" (.int zc)) (hzc : ¬ zc = 0) (h01 : p4 = 0 ∨ p4 = 1) :
    MetFree l (⟨"com/example/gentle_commit/gentlecommit/initiator/Message", "<init>", "(Ljava/lang/String;Ljava/lang/String;ZLjava/lang/String;Ljava/lang/String;[B)V"⟩ : MethodName) (head1 (Jvm.Cond.code (⟨"com/example/gentle_commit/gentlecommit/initiator/Message", "<init>", "(Ljava/lang/String;Ljava/lang/String;ZLjava/lang/String;Ljava/lang/String;[B)V"⟩ : MethodName) prog_10_method_1_code 7 none :: ws) ({ frames := 6, cells := 11, slots := 112, locals := 90 } : Room)) (fun a U => a = #[(.ref a1), (.ref a2), (.ref a3), (.int p4), (.ref a5), (.ref a6), (.ref a7)] ∧ Z.Warmed39 U.vm ∧ U.heap = h0 ∧ CHv Z own_EL U.vm h0) (fun _ _ _ _ _ => True) (fun _ U o U' => ∃ v L, o = .returned v ∧ Q_rmMI Z a1 a2 a3 p4 a5 a6 a7 ta ka tb kb kc cu zc h0 n0 v U'.heap L ∧ CHr Z own_EL U.vm U.heap U'.vm U'.heap ∧ ReturnedEndW U o U' L ({ frames := 6, cells := 11, slots := 112, locals := 90 } : Room).cells ({ frames := 6, cells := 11, slots := 112, locals := 90 } : Room).slots) := by
  refine MetFree.of_bodySF (plainFor_of_name pn_7) hisR ?_
  intro p e s m args below meth c s₁ Bd hml0 hP hK
  obtain ⟨rfl, hZ, hh, hCH⟩ := hP
  have hx := Bd.exec
  have hby := Bd.bytes
  have hml : c.maxLocals = 7 := hml0
  have hown : s.vm.findClass "com/example/gentle_commit/gentlecommit/initiator/Message" = some m.cls := findClass_of_methodNamed Bd.named
  have hnm := (name_of_methodNamed Bd.named Bd.method).1
  have X0 : Stand p l e ({ frames := 6, cells := 11, slots := 112, locals := 90 } : Room) s m #[(.ref a1), (.ref a2), (.ref a3), (.int p4), (.ref a5), (.ref a6), (.ref a7)] below meth c s₁ [] 0 0 := Stand.of_body Bd
  have e0 : s₁.heap = h0 := by rw [← hh, Bd.state]; rfl
  have N0 := Fr.nil n0
  have pre0 : ∀ t, Steps p.tables e below (s₁.setTop (mkF m 0 #[.val (.ref a1), .val (.ref a2), .val (.ref a3), .val (.int p4), .val (.ref a5), .val (.ref a6), .val (.ref a7)] [])) t → Steps p.tables e below (s₁.setTop (entryFrame m #[(.ref a1), (.ref a2), (.ref a3), (.int p4), (.ref a5), (.ref a6), (.ref a7)] 7)) t := fun t k => castTop (ef_14 m a1 a2 a3 p4 a5 a6 a7) k
  have X0w : Stand p l e ({ frames := 6, cells := 11, slots := 112, locals := 90 } : Room) (s.setVm s.vm) m #[(.ref a1), (.ref a2), (.ref a3), (.int p4), (.ref a5), (.ref a6), (.ref a7)] below meth c s₁ [] 0 0 := X0
  have hZ0 : Z.Warmed39 (s.setVm s.vm).vm := hZ
  have hown0 : (s.setVm s.vm).vm.findClass "com/example/gentle_commit/gentlecommit/initiator/Message" = some m.cls := hown
  have hS0 : s.Since s.vm 0 := (State.WarmedH.refl s).since 0
  have hk0 : 0 ≤ h0.size := Nat.zero_le _
  have CH0 : CHr Z own_EL s.vm h0 s.vm h0 := CHr.refl hCH
  obtain ⟨_, _, ⟨T1, LL1, kk1, nn1⟩, -, X1, ⟨Lc1, hQ1, l1, y1, z1⟩, st1⟩ := X0w.specialBack hx (y := (⟨"java/lang/Record", "<init>", "()V"⟩ : MethodName)) rfl hown0 (mvT hZ0 (own_t hw 39 rfl)) (mvT hZ0 (own_t hw 40 rfl)) (mvT hZ0 (own_t hw 43 rfl)) (by decide) (backOf (W := 0) (rmRc l Z a0 hw [] a1 h0 n0 Z0 ) hZ0 (own_t hw 43 rfl) (own_t hw 42 rfl) (by decide) (by decide)) (g := (mkF m 1 #[.val (.ref a1), .val (.ref a2), .val (.ref a3), .val (.int p4), .val (.ref a5), .val (.ref a6), .val (.ref a7)] [(.ref a1)])) rfl (by rw [hml]; rfl) (Steps.refl _) (a := a1) (argsL := []) (rest := []) (lenOf pd_23 rfl) rfl (by show 2 * 0 + _ ≤ _; exact Nat.le_of_eq rfl) (hb hby e10_1_1) (fun _ _ => ⟨rfl, e0, (by decide : 0 + 0 ≤ _), (by decide : 0 + 0 ≤ _)⟩)
  dsimp only [Pt.U, Pt.locs, Pt.cells, Pt.slots] at X1 l1 y1 z1 st1 hQ1
  subst l1 y1 z1
  obtain ⟨rfl, N1q, e1⟩ := hQ1
  have N1 := Fr.app N0 N1q
  obtain ⟨b2, T2, h2, k2, X2, e2, E2, hS2, hk2, hZ2, hown2, C2, -, st2⟩ := ldcOH X1 hx hZ0 hown0 (own_t hw 45 rfl) (own_wS Z a0 hw) e1 hS0 hk0 (own_EW Z a0 hw) CH0.1 (g := (mkF m 5 #[.val (.ref a1), .val (.ref a2), .val (.ref a3), .val (.int p4), .val (.ref a5), .val (.ref a6), .val (.ref a7)] [(.ref a2)])) rfl (hb hby e10_1_5) (n := 8) (by decide) (by decide) (by decide) (by decide)
  have CH2 := CHr.trans CH0 (C2)
  have Q2 : Keep h0 h2 [a1] := (Keep.refl h0 [a1]).ext E2
  obtain ⟨_, _, ⟨T3, LL3, kk3, nn3⟩, -, X3, ⟨Lc3, hQ3, l3, y3, z3⟩, st3⟩ := Jvm.LawKit.callS X2 hx (y := (⟨"java/util/Objects", "requireNonNull", "(Ljava/lang/Object;Ljava/lang/String;)Ljava/lang/Object;"⟩ : MethodName)) hown2 (mvT hZ2 (own_t hw 46 rfl)) (mvT hZ2 (own_t hw 47 rfl)) (mvT hZ2 (own_t hw 48 rfl)) (mvT hZ2 (own_t hw 49 rfl)) (by decide) (backOf (W := 0) (rmrq l Z a0 hw [] a2 b2 h2 n0 (Nat.le_trans Z0 E2.1) ) hZ2 (own_t hw 49 rfl) (own_t hw 48 rfl) (by decide) (by decide)) (g := (mkF m 7 #[.val (.ref a1), .val (.ref a2), .val (.ref a3), .val (.int p4), .val (.ref a5), .val (.ref a6), .val (.ref a7)] [(.ref b2), (.ref a2)])) rfl (by rw [hml]; rfl) (argsL := [(.ref a2), (.ref b2)]) (rest := []) (lenOf pd_21 rfl) rfl (by show 2 * 0 + _ ≤ _; exact Nat.le_of_eq rfl) (hb hby e10_1_7) (fun _ _ => ⟨rfl, e2, (by decide : 2 + 0 ≤ _), (by decide : 12 + 0 ≤ _)⟩)
  dsimp only [Pt.U, Pt.locs, Pt.cells, Pt.slots] at X3 l3 y3 z3 st3 hQ3
  subst l3 y3 z3
  obtain ⟨rfl, N3q, e3⟩ := hQ3
  have N3 := Fr.app N1 N3q
  obtain ⟨b4, T4, h4, k4, X4, e4, E4, hS4, hk4, hZ4, hown4, C4, -, st4⟩ := ldcOH X3 hx hZ2 hown2 (own_t hw 50 rfl) (own_wS Z a0 hw) e3 hS2 hk2 (own_EW Z a0 hw) CH2.1 (g := (mkF m 12 #[.val (.ref a1), .val (.ref a2), .val (.ref a3), .val (.int p4), .val (.ref a5), .val (.ref a6), .val (.ref a7)] [(.ref a3)])) rfl (hb hby e10_1_12) (n := 12) (by decide) (by decide) (by decide) (by decide)
  have CH4 := CHr.trans CH2 (C4)
  have Q4 : Keep h0 h4 [a1] := Q2.ext E4
  obtain ⟨_, _, ⟨T5, LL5, kk5, nn5⟩, -, X5, ⟨Lc5, hQ5, l5, y5, z5⟩, st5⟩ := Jvm.LawKit.callS X4 hx (y := (⟨"java/util/Objects", "requireNonNull", "(Ljava/lang/Object;Ljava/lang/String;)Ljava/lang/Object;"⟩ : MethodName)) hown4 (mvT hZ4 (own_t hw 46 rfl)) (mvT hZ4 (own_t hw 47 rfl)) (mvT hZ4 (own_t hw 48 rfl)) (mvT hZ4 (own_t hw 49 rfl)) (by decide) (backOf (W := 0) (rmrq l Z a0 hw [] a3 b4 h4 n0 (Nat.le_trans (Nat.le_trans Z0 E2.1) E4.1) ) hZ4 (own_t hw 49 rfl) (own_t hw 48 rfl) (by decide) (by decide)) (g := (mkF m 14 #[.val (.ref a1), .val (.ref a2), .val (.ref a3), .val (.int p4), .val (.ref a5), .val (.ref a6), .val (.ref a7)] [(.ref b4), (.ref a3)])) rfl (by rw [hml]; rfl) (argsL := [(.ref a3), (.ref b4)]) (rest := []) (lenOf pd_21 rfl) rfl (by show 2 * 0 + _ ≤ _; exact Nat.le_of_eq rfl) (hb hby e10_1_14) (fun _ _ => ⟨rfl, e4, (by decide : 4 + 0 ≤ _), (by decide : 28 + 0 ≤ _)⟩)
  dsimp only [Pt.U, Pt.locs, Pt.cells, Pt.slots] at X5 l5 y5 z5 st5 hQ5
  subst l5 y5 z5
  obtain ⟨rfl, N5q, e5⟩ := hQ5
  have N5 := Fr.app N3 N5q
  obtain ⟨b6, T6, h6, k6, X6, e6, E6, hS6, hk6, hZ6, hown6, C6, -, st6⟩ := ldcOH X5 hx hZ4 hown4 (own_t hw 51 rfl) (own_wS Z a0 hw) e5 hS4 hk4 (own_EW Z a0 hw) CH4.1 (g := (mkF m 18 #[.val (.ref a1), .val (.ref a2), .val (.ref a3), .val (.int p4), .val (.ref a5), .val (.ref a6), .val (.ref a7)] [])) rfl (hb hby e10_1_18) (n := 32) (by decide) (by decide) (by decide) (by decide)
  have CH6 := CHr.trans CH4 (C6)
  have Q6 : Keep h0 h6 [a1] := Q4.ext E6
  obtain ⟨_, _, ⟨T7, LL7, kk7, nn7⟩, -, X7, ⟨Lc7, hQ7, l7, y7, z7⟩, st7⟩ := Jvm.LawKit.callS X6 hx (y := (⟨"com/example/gentle_commit/gentlecommit/initiator/Message", "requireName", "(Ljava/lang/String;Ljava/lang/String;)V"⟩ : MethodName)) hown6 (mvT hZ6 (own_t hw 52 rfl)) (mvT hZ6 (own_t hw 53 rfl)) (mvT hZ6 (own_t hw 32 rfl)) (mvT hZ6 (own_t hw 54 rfl)) (by decide) (backOf (W := 0) (rmrN l Z a0 hw [] b6 a5 ta ka cu zc h6 n0 (Nat.le_trans (Nat.le_trans (Nat.le_trans Z0 E2.1) E4.1) E6.1) (((E_a5.ext E2).ext E4).ext E6) (((F_value_a5.ext E2).ext E4).ext E6) (((F_coder_a5.ext E2).ext E4).ext E6) (((V_ta.ext E2).ext E4).ext E6) (((E_ta.ext E2).ext E4).ext E6) (((S_UTF_8_.ext E2).ext E4).ext E6) (((S_INSTANCE_.ext E2).ext E4).ext E6) (((S_COMPACT_STRINGS_.ext E2).ext E4).ext E6) (hzc)) hZ6 (own_t hw 54 rfl) (own_t hw 32 rfl) (by decide) (by decide)) (g := (mkF m 22 #[.val (.ref a1), .val (.ref a2), .val (.ref a3), .val (.int p4), .val (.ref a5), .val (.ref a6), .val (.ref a7)] [(.ref a5), (.ref b6)])) rfl (by rw [hml]; rfl) (argsL := [(.ref b6), (.ref a5)]) (rest := []) (lenOf pd_24 rfl) rfl (by show 2 * 0 + _ ≤ _; exact Nat.le_of_eq rfl) (hb hby e10_1_22) (fun _ _ => ⟨rfl, e6, (by decide : 6 + 1 ≤ _), (by decide : 64 + 0 ≤ _)⟩)
  dsimp only [Pt.U, Pt.locs, Pt.cells, Pt.slots] at X7 l7 y7 z7 st7 hQ7
  subst l7 y7 z7
  obtain ⟨rfl, N7q, K7⟩ := hQ7
  have N7 := Fr.app N5 N7q
  have CH7 := CHr.trans CH6 (CHr.keep K7 sf0 CH6.1)
  have Q7 : Keep h0 T7.heap [a1] := Q6.trans K7 all0
  obtain ⟨b8, T8, h8, k8, X8, e8, E8, hS8, hk8, hZ8, hown8, C8, -, st8⟩ := ldcOH X7 hx hZ6 hown6 (own_t hw 91 rfl) (own_wS Z a0 hw) rfl hS6 (Nat.le_trans hk6 K7.1) (own_EW Z a0 hw) CH7.1 (g := (mkF m 25 #[.val (.ref a1), .val (.ref a2), .val (.ref a3), .val (.int p4), .val (.ref a5), .val (.ref a6), .val (.ref a7)] [])) rfl (hb hby e10_1_25) (n := 44) (by decide) (by decide) (by decide) (by decide)
  have CH8 := CHr.trans CH7 (C8)
  have Q8 : Keep h0 h8 [a1] := Q7.ext E8
  obtain ⟨_, _, ⟨T9, LL9, kk9, nn9⟩, -, X9, ⟨Lc9, hQ9, l9, y9, z9⟩, st9⟩ := Jvm.LawKit.callS X8 hx (y := (⟨"com/example/gentle_commit/gentlecommit/initiator/Message", "requireName", "(Ljava/lang/String;Ljava/lang/String;)V"⟩ : MethodName)) hown8 (mvT hZ8 (own_t hw 52 rfl)) (mvT hZ8 (own_t hw 53 rfl)) (mvT hZ8 (own_t hw 32 rfl)) (mvT hZ8 (own_t hw 54 rfl)) (by decide) (backOf (W := 0) (rmrN l Z a0 hw [] b8 a6 tb kb cu zc h8 n0 (Nat.le_trans (Nat.le_trans (Nat.le_trans (Nat.le_trans (Nat.le_trans Z0 E2.1) E4.1) E6.1) K7.1) E8.1) (((((E_a6.ext E2).ext E4).ext E6).keep K7).ext E8) (((((F_value_a6.ext E2).ext E4).ext E6).keep K7 nin0).ext E8) (((((F_coder_a6.ext E2).ext E4).ext E6).keep K7 nin0).ext E8) (((((V_tb.ext E2).ext E4).ext E6).keep K7 nin0).ext E8) (((((E_tb.ext E2).ext E4).ext E6).keep K7).ext E8) ((own_sta_keep0 (((S_UTF_8_.ext E2).ext E4).ext E6) K7).ext E8) ((own_sta_keep0 (((S_INSTANCE_.ext E2).ext E4).ext E6) K7).ext E8) ((own_sta_keep0 (((S_COMPACT_STRINGS_.ext E2).ext E4).ext E6) K7).ext E8) (hzc)) hZ8 (own_t hw 54 rfl) (own_t hw 32 rfl) (by decide) (by decide)) (g := (mkF m 29 #[.val (.ref a1), .val (.ref a2), .val (.ref a3), .val (.int p4), .val (.ref a5), .val (.ref a6), .val (.ref a7)] [(.ref a6), (.ref b8)])) rfl (by rw [hml]; rfl) (argsL := [(.ref b8), (.ref a6)]) (rest := []) (lenOf pd_24 rfl) rfl (by show 2 * 0 + _ ≤ _; exact Nat.le_of_eq rfl) (hb hby e10_1_29) (fun _ _ => ⟨rfl, e8, (by decide : 9 + 1 ≤ _), (by decide : 112 + 0 ≤ _)⟩)
  dsimp only [Pt.U, Pt.locs, Pt.cells, Pt.slots] at X9 l9 y9 z9 st9 hQ9
  subst l9 y9 z9
  obtain ⟨rfl, N9q, K9⟩ := hQ9
  have N9 := Fr.app N7 N9q
  have CH9 := CHr.trans CH8 (CHr.keep K9 sf0 CH8.1)
  have Q9 : Keep h0 T9.heap [a1] := Q8.trans K9 all0
  obtain ⟨T10, h10, X10, e10, E10, A10, EX10, st10⟩ := cloneH X9 hx hZ8 hown8 (own_t hw 92 rfl) (own_t hw 83 rfl) (own_t hw 87 rfl) (own_t hw 85 rfl) (own_t hw 86 rfl) (own_t hw 88 rfl) rfl (Arv.arh ((((((V_a7.ext E2).ext E4).ext E6).keep K7 nin0).ext E8).keep K9 nin0)) ((((((E_a7.ext E2).ext E4).ext E6).keep K7).ext E8).keep K9) (g := (mkF m 34 #[.val (.ref a1), .val (.ref a2), .val (.ref a3), .val (.int p4), .val (.ref a5), .val (.ref a6), .val (.ref a7)] [(.ref a7)])) rfl (by rw [hml]; rfl) rfl (hb hby e10_1_34) (by decide) (W := 0) (cap := 0) (by show 2 * 0 + _ ≤ _; exact Nat.le_of_eq rfl) (by decide) (by decide) (by decide) (by decide)
  obtain ⟨b10, gg10⟩ : ∃ z, z = T9.heap.size := ⟨_, rfl⟩
  rw [← gg10] at A10 EX10 st10
  have CH10 := CHr.trans CH9 (CHr.ext E10 CH9.1)
  have g_b10 : n0 ≤ b10 := Nat.le_trans (Nat.le_trans (Nat.le_trans (Nat.le_trans (Nat.le_trans (Nat.le_trans (Nat.le_trans Z0 E2.1) E4.1) E6.1) K7.1) E8.1) K9.1) (Nat.le_of_eq gg10.symm)
  have sz_b10 : h0.size ≤ b10 := Nat.le_trans Q9.1 (Nat.le_of_eq gg10.symm)
  have Q10 : Keep h0 h10 [a1] := Q9.ext E10
  have V_b10 : Arv Z h10 b10 kc .byte (0 : Int32) [] (.int 0) := A10
  obtain ⟨T11, X11, e11, st11⟩ := castY X10 hx hZ8 hown8 (own_t hw 93 rfl) e10 (Ins.self EX10) (g := (mkF m 37 #[.val (.ref a1), .val (.ref a2), .val (.ref a3), .val (.int p4), .val (.ref a5), .val (.ref a6), .val (.ref a7)] [(.ref b10)])) rfl rfl (hb hby e10_1_37)
  obtain ⟨T12, h12, X12, e12, W12, st12⟩ := putF X11 hx hZ8 hown8 (host := "") (Or.inl (own_t hw 94 rfl)) Via.refl e11 (((((((F_id_a1.ext E2).ext E4).ext E6).keep K7 nin0).ext E8).keep K9 nin0).ext E10) (((((((E_a1.ext E2).ext E4).ext E6).keep K7).ext E8).keep K9).ext E10) (Or.inr ⟨(own_t hw 95 rfl), rfl, hnm⟩) (own_t hw 31 rfl) (ty := (.object "java/lang/String")) (by decide) rfl rfl (g := (mkF m 44 #[.val (.ref a1), .val (.ref a2), .val (.ref a3), .val (.int p4), .val (.ref a5), .val (.ref a6), .val (.ref b10)] [(.ref a2), (.ref a1)])) rfl rfl (hb hby e10_1_44)
  have Fw12 := (((((((F_id_a1.ext E2).ext E4).ext E6).keep K7 nin0).ext E8).keep K9 nin0).ext E10).same W12
  have CH12 := CHr.trans CH10 (CHr.wr W12 (Safe.exa hZ8.alike (((((((E_a1.ext E2).ext E4).ext E6).keep K7).ext E8).keep K9).ext E10) (by decide) (by decide)) CH10.1)
  have Q12 : Keep h0 h12 [a1] := Q10.wr W12 (Or.inl (List.mem_of_getElem? (i := 0) rfl))
  have N12 := Fr.snoc X12 N9 g_a1
  obtain ⟨T13, h13, X13, e13, W13, st13⟩ := putF X12 hx hZ8 hown8 (host := "") (Or.inl (own_t hw 96 rfl)) Via.refl e12 ((((((((F_gid_a1.ext E2).ext E4).ext E6).keep K7 nin0).ext E8).keep K9 nin0).ext E10).other W12 (Or.inr (slot_ne (Or.inr (own_t hw 97 rfl)) (Or.inr (own_t hw 95 rfl)) (by decide) (t := (.object "java/lang/String")) (t' := (.object "java/lang/String")) (by decide) (by decide)))) ((((((((E_a1.ext E2).ext E4).ext E6).keep K7).ext E8).keep K9).ext E10).wr W12) (Or.inr ⟨(own_t hw 97 rfl), rfl, hnm⟩) (own_t hw 31 rfl) (ty := (.object "java/lang/String")) (by decide) rfl rfl (g := (mkF m 49 #[.val (.ref a1), .val (.ref a2), .val (.ref a3), .val (.int p4), .val (.ref a5), .val (.ref a6), .val (.ref b10)] [(.ref a3), (.ref a1)])) rfl rfl (hb hby e10_1_49)
  have Fw13 := ((((((((F_gid_a1.ext E2).ext E4).ext E6).keep K7 nin0).ext E8).keep K9 nin0).ext E10).other W12 (Or.inr (slot_ne (Or.inr (own_t hw 97 rfl)) (Or.inr (own_t hw 95 rfl)) (by decide) (t := (.object "java/lang/String")) (t' := (.object "java/lang/String")) (by decide) (by decide)))).same W13
  have CH13 := CHr.trans CH12 (CHr.wr W13 (Safe.exa hZ8.alike ((((((((E_a1.ext E2).ext E4).ext E6).keep K7).ext E8).keep K9).ext E10).wr W12) (by decide) (by decide)) CH12.1)
  have Q13 : Keep h0 h13 [a1] := Q12.wr W13 (Or.inl (List.mem_of_getElem? (i := 0) rfl))
  have N13 := Fr.snoc X13 N12 g_a1
  obtain ⟨T14, h14, X14, e14, W14, st14⟩ := putFN X13 hx hZ8 hown8 (own_t hw 98 rfl) Via.refl e13 (((((((((F_reliable_a1.ext E2).ext E4).ext E6).keep K7 nin0).ext E8).keep K9 nin0).ext E10).other W12 (Or.inr (slot_ne (Or.inr (own_t hw 99 rfl)) (Or.inr (own_t hw 95 rfl)) (by decide) (t := .boolean) (t' := (.object "java/lang/String")) (by decide) (by decide)))).other W13 (Or.inr (slot_ne (Or.inr (own_t hw 99 rfl)) (Or.inr (own_t hw 97 rfl)) (by decide) (t := .boolean) (t' := (.object "java/lang/String")) (by decide) (by decide)))) (((((((((E_a1.ext E2).ext E4).ext E6).keep K7).ext E8).keep K9).ext E10).wr W12).wr W13) (Or.inr ⟨(own_t hw 99 rfl), rfl, hnm⟩) (own_t hw 31 rfl) (ty := .boolean) (v' := (.int p4)) (by decide) (own_nar01 h01) (own_fit01 h01) (g := (mkF m 54 #[.val (.ref a1), .val (.ref a2), .val (.ref a3), .val (.int p4), .val (.ref a5), .val (.ref a6), .val (.ref b10)] [(.int p4), (.ref a1)])) rfl rfl (hb hby e10_1_54)
  have Fw14 := (((((((((F_reliable_a1.ext E2).ext E4).ext E6).keep K7 nin0).ext E8).keep K9 nin0).ext E10).other W12 (Or.inr (slot_ne (Or.inr (own_t hw 99 rfl)) (Or.inr (own_t hw 95 rfl)) (by decide) (t := .boolean) (t' := (.object "java/lang/String")) (by decide) (by decide)))).other W13 (Or.inr (slot_ne (Or.inr (own_t hw 99 rfl)) (Or.inr (own_t hw 97 rfl)) (by decide) (t := .boolean) (t' := (.object "java/lang/String")) (by decide) (by decide)))).same W14
  have CH14 := CHr.trans CH13 (CHr.wr W14 (Safe.exa hZ8.alike (((((((((E_a1.ext E2).ext E4).ext E6).keep K7).ext E8).keep K9).ext E10).wr W12).wr W13) (by decide) (by decide)) CH13.1)
  have Q14 : Keep h0 h14 [a1] := Q13.wr W14 (Or.inl (List.mem_of_getElem? (i := 0) rfl))
  have N14 := Fr.snoc X14 N13 g_a1
  obtain ⟨T15, h15, X15, e15, W15, st15⟩ := putF X14 hx hZ8 hown8 (host := "") (Or.inl (own_t hw 100 rfl)) Via.refl e14 ((((((((((F_exchange_a1.ext E2).ext E4).ext E6).keep K7 nin0).ext E8).keep K9 nin0).ext E10).other W12 (Or.inr (slot_ne (Or.inr (own_t hw 101 rfl)) (Or.inr (own_t hw 95 rfl)) (by decide) (t := (.object "java/lang/String")) (t' := (.object "java/lang/String")) (by decide) (by decide)))).other W13 (Or.inr (slot_ne (Or.inr (own_t hw 101 rfl)) (Or.inr (own_t hw 97 rfl)) (by decide) (t := (.object "java/lang/String")) (t' := (.object "java/lang/String")) (by decide) (by decide)))).other W14 (Or.inr (slot_ne (Or.inr (own_t hw 101 rfl)) (Or.inr (own_t hw 99 rfl)) (by decide) (t := (.object "java/lang/String")) (t' := .boolean) (by decide) (by decide)))) ((((((((((E_a1.ext E2).ext E4).ext E6).keep K7).ext E8).keep K9).ext E10).wr W12).wr W13).wr W14) (Or.inr ⟨(own_t hw 101 rfl), rfl, hnm⟩) (own_t hw 31 rfl) (ty := (.object "java/lang/String")) (by decide) rfl rfl (g := (mkF m 60 #[.val (.ref a1), .val (.ref a2), .val (.ref a3), .val (.int p4), .val (.ref a5), .val (.ref a6), .val (.ref b10)] [(.ref a5), (.ref a1)])) rfl rfl (hb hby e10_1_60)
  have Fw15 := ((((((((((F_exchange_a1.ext E2).ext E4).ext E6).keep K7 nin0).ext E8).keep K9 nin0).ext E10).other W12 (Or.inr (slot_ne (Or.inr (own_t hw 101 rfl)) (Or.inr (own_t hw 95 rfl)) (by decide) (t := (.object "java/lang/String")) (t' := (.object "java/lang/String")) (by decide) (by decide)))).other W13 (Or.inr (slot_ne (Or.inr (own_t hw 101 rfl)) (Or.inr (own_t hw 97 rfl)) (by decide) (t := (.object "java/lang/String")) (t' := (.object "java/lang/String")) (by decide) (by decide)))).other W14 (Or.inr (slot_ne (Or.inr (own_t hw 101 rfl)) (Or.inr (own_t hw 99 rfl)) (by decide) (t := (.object "java/lang/String")) (t' := .boolean) (by decide) (by decide)))).same W15
  have CH15 := CHr.trans CH14 (CHr.wr W15 (Safe.exa hZ8.alike ((((((((((E_a1.ext E2).ext E4).ext E6).keep K7).ext E8).keep K9).ext E10).wr W12).wr W13).wr W14) (by decide) (by decide)) CH14.1)
  have Q15 : Keep h0 h15 [a1] := Q14.wr W15 (Or.inl (List.mem_of_getElem? (i := 0) rfl))
  have N15 := Fr.snoc X15 N14 g_a1
  obtain ⟨T16, h16, X16, e16, W16, st16⟩ := putF X15 hx hZ8 hown8 (host := "") (Or.inl (own_t hw 102 rfl)) Via.refl e15 (((((((((((F_routingKey_a1.ext E2).ext E4).ext E6).keep K7 nin0).ext E8).keep K9 nin0).ext E10).other W12 (Or.inr (slot_ne (Or.inr (own_t hw 103 rfl)) (Or.inr (own_t hw 95 rfl)) (by decide) (t := (.object "java/lang/String")) (t' := (.object "java/lang/String")) (by decide) (by decide)))).other W13 (Or.inr (slot_ne (Or.inr (own_t hw 103 rfl)) (Or.inr (own_t hw 97 rfl)) (by decide) (t := (.object "java/lang/String")) (t' := (.object "java/lang/String")) (by decide) (by decide)))).other W14 (Or.inr (slot_ne (Or.inr (own_t hw 103 rfl)) (Or.inr (own_t hw 99 rfl)) (by decide) (t := (.object "java/lang/String")) (t' := .boolean) (by decide) (by decide)))).other W15 (Or.inr (slot_ne (Or.inr (own_t hw 103 rfl)) (Or.inr (own_t hw 101 rfl)) (by decide) (t := (.object "java/lang/String")) (t' := (.object "java/lang/String")) (by decide) (by decide)))) (((((((((((E_a1.ext E2).ext E4).ext E6).keep K7).ext E8).keep K9).ext E10).wr W12).wr W13).wr W14).wr W15) (Or.inr ⟨(own_t hw 103 rfl), rfl, hnm⟩) (own_t hw 31 rfl) (ty := (.object "java/lang/String")) (by decide) rfl rfl (g := (mkF m 66 #[.val (.ref a1), .val (.ref a2), .val (.ref a3), .val (.int p4), .val (.ref a5), .val (.ref a6), .val (.ref b10)] [(.ref a6), (.ref a1)])) rfl rfl (hb hby e10_1_66)
  have Fw16 := (((((((((((F_routingKey_a1.ext E2).ext E4).ext E6).keep K7 nin0).ext E8).keep K9 nin0).ext E10).other W12 (Or.inr (slot_ne (Or.inr (own_t hw 103 rfl)) (Or.inr (own_t hw 95 rfl)) (by decide) (t := (.object "java/lang/String")) (t' := (.object "java/lang/String")) (by decide) (by decide)))).other W13 (Or.inr (slot_ne (Or.inr (own_t hw 103 rfl)) (Or.inr (own_t hw 97 rfl)) (by decide) (t := (.object "java/lang/String")) (t' := (.object "java/lang/String")) (by decide) (by decide)))).other W14 (Or.inr (slot_ne (Or.inr (own_t hw 103 rfl)) (Or.inr (own_t hw 99 rfl)) (by decide) (t := (.object "java/lang/String")) (t' := .boolean) (by decide) (by decide)))).other W15 (Or.inr (slot_ne (Or.inr (own_t hw 103 rfl)) (Or.inr (own_t hw 101 rfl)) (by decide) (t := (.object "java/lang/String")) (t' := (.object "java/lang/String")) (by decide) (by decide)))).same W16
  have CH16 := CHr.trans CH15 (CHr.wr W16 (Safe.exa hZ8.alike (((((((((((E_a1.ext E2).ext E4).ext E6).keep K7).ext E8).keep K9).ext E10).wr W12).wr W13).wr W14).wr W15) (by decide) (by decide)) CH15.1)
  have Q16 : Keep h0 h16 [a1] := Q15.wr W16 (Or.inl (List.mem_of_getElem? (i := 0) rfl))
  have N16 := Fr.snoc X16 N15 g_a1
  obtain ⟨T17, h17, X17, e17, W17, st17⟩ := putF X16 hx hZ8 hown8 (host := "") (Or.inl (own_t hw 104 rfl)) Via.refl e16 ((((((((((((F_body_a1.ext E2).ext E4).ext E6).keep K7 nin0).ext E8).keep K9 nin0).ext E10).other W12 (Or.inr (slot_ne (Or.inr (own_t hw 105 rfl)) (Or.inr (own_t hw 95 rfl)) (by decide) (t := (.array .byte)) (t' := (.object "java/lang/String")) (by decide) (by decide)))).other W13 (Or.inr (slot_ne (Or.inr (own_t hw 105 rfl)) (Or.inr (own_t hw 97 rfl)) (by decide) (t := (.array .byte)) (t' := (.object "java/lang/String")) (by decide) (by decide)))).other W14 (Or.inr (slot_ne (Or.inr (own_t hw 105 rfl)) (Or.inr (own_t hw 99 rfl)) (by decide) (t := (.array .byte)) (t' := .boolean) (by decide) (by decide)))).other W15 (Or.inr (slot_ne (Or.inr (own_t hw 105 rfl)) (Or.inr (own_t hw 101 rfl)) (by decide) (t := (.array .byte)) (t' := (.object "java/lang/String")) (by decide) (by decide)))).other W16 (Or.inr (slot_ne (Or.inr (own_t hw 105 rfl)) (Or.inr (own_t hw 103 rfl)) (by decide) (t := (.array .byte)) (t' := (.object "java/lang/String")) (by decide) (by decide)))) ((((((((((((E_a1.ext E2).ext E4).ext E6).keep K7).ext E8).keep K9).ext E10).wr W12).wr W13).wr W14).wr W15).wr W16) (Or.inr ⟨(own_t hw 105 rfl), rfl, hnm⟩) (own_t hw 31 rfl) (ty := (.array .byte)) (by decide) rfl rfl (g := (mkF m 72 #[.val (.ref a1), .val (.ref a2), .val (.ref a3), .val (.int p4), .val (.ref a5), .val (.ref a6), .val (.ref b10)] [(.ref b10), (.ref a1)])) rfl rfl (hb hby e10_1_72)
  have Fw17 := ((((((((((((F_body_a1.ext E2).ext E4).ext E6).keep K7 nin0).ext E8).keep K9 nin0).ext E10).other W12 (Or.inr (slot_ne (Or.inr (own_t hw 105 rfl)) (Or.inr (own_t hw 95 rfl)) (by decide) (t := (.array .byte)) (t' := (.object "java/lang/String")) (by decide) (by decide)))).other W13 (Or.inr (slot_ne (Or.inr (own_t hw 105 rfl)) (Or.inr (own_t hw 97 rfl)) (by decide) (t := (.array .byte)) (t' := (.object "java/lang/String")) (by decide) (by decide)))).other W14 (Or.inr (slot_ne (Or.inr (own_t hw 105 rfl)) (Or.inr (own_t hw 99 rfl)) (by decide) (t := (.array .byte)) (t' := .boolean) (by decide) (by decide)))).other W15 (Or.inr (slot_ne (Or.inr (own_t hw 105 rfl)) (Or.inr (own_t hw 101 rfl)) (by decide) (t := (.array .byte)) (t' := (.object "java/lang/String")) (by decide) (by decide)))).other W16 (Or.inr (slot_ne (Or.inr (own_t hw 105 rfl)) (Or.inr (own_t hw 103 rfl)) (by decide) (t := (.array .byte)) (t' := (.object "java/lang/String")) (by decide) (by decide)))).same W17
  have CH17 := CHr.trans CH16 (CHr.wr W17 (Safe.exa hZ8.alike ((((((((((((E_a1.ext E2).ext E4).ext E6).keep K7).ext E8).keep K9).ext E10).wr W12).wr W13).wr W14).wr W15).wr W16) (by decide) (by decide)) CH16.1)
  have Q17 : Keep h0 h17 [a1] := Q16.wr W17 (Or.inl (List.mem_of_getElem? (i := 0) rfl))
  have N17 := Fr.snoc X17 N16 g_a1
  obtain ⟨fs, hr, hrun, hended, hR⟩ := X17.leaveW hS8 (by rw [e17]; exact (Nat.le_trans (Nat.le_trans (Nat.le_trans (Nat.le_trans (Nat.le_trans (Nat.le_trans (Nat.le_trans (Nat.le_trans hk8 K9.1) E10.1) (Keep.of_wr W12).1) (Keep.of_wr W13).1) (Keep.of_wr W14).1) (Keep.of_wr W15).1) (Keep.of_wr W16).1) (Keep.of_wr W17).1)) (v := none) (fun _ => rfl)
  refine ⟨_, _, pre0 _ ?_, hrun, hended, _, _, rfl, ?_, ?_, hR.1, hR.2.1, hR.2.2.1, hR.2.2.2.mono (by decide) (by decide)⟩
  · show Steps p.tables e below (s₁.setTop (mkF m 0 #[.val (.ref a1), .val (.ref a2), .val (.ref a3), .val (.int p4), .val (.ref a5), .val (.ref a6), .val (.ref a7)] [])) _
    refine XS.aloadN X0w.here hx rfl (hb hby e10_1_0) rfl rfl ?_
    refine st1.trans ?_
    show Steps p.tables e below (T1.setTop (mkF m 4 #[.val (.ref a1), .val (.ref a2), .val (.ref a3), .val (.int p4), .val (.ref a5), .val (.ref a6), .val (.ref a7)] [])) _
    refine XS.aloadN X1.here hx rfl (hb hby e10_1_4) rfl rfl ?_
    refine st2 _ ?_
    show Steps p.tables e below (T2.setTop (mkF m 7 #[.val (.ref a1), .val (.ref a2), .val (.ref a3), .val (.int p4), .val (.ref a5), .val (.ref a6), .val (.ref a7)] [(.ref b2), (.ref a2)])) _
    refine st3 _ ?_
    show Steps p.tables e below (T3.setTop (mkF m 10 #[.val (.ref a1), .val (.ref a2), .val (.ref a3), .val (.int p4), .val (.ref a5), .val (.ref a6), .val (.ref a7)] [(.ref a2)])) _
    refine XS.pop X3.here hx rfl (hb hby e10_1_10) rfl rfl ?_
    refine XS.aloadN X3.here hx rfl (hb hby e10_1_11) rfl rfl ?_
    refine st4 _ ?_
    show Steps p.tables e below (T4.setTop (mkF m 14 #[.val (.ref a1), .val (.ref a2), .val (.ref a3), .val (.int p4), .val (.ref a5), .val (.ref a6), .val (.ref a7)] [(.ref b4), (.ref a3)])) _
    refine st5 _ ?_
    show Steps p.tables e below (T5.setTop (mkF m 17 #[.val (.ref a1), .val (.ref a2), .val (.ref a3), .val (.int p4), .val (.ref a5), .val (.ref a6), .val (.ref a7)] [(.ref a3)])) _
    refine XS.pop X5.here hx rfl (hb hby e10_1_17) rfl rfl ?_
    refine st6 _ ?_
    show Steps p.tables e below (T6.setTop (mkF m 20 #[.val (.ref a1), .val (.ref a2), .val (.ref a3), .val (.int p4), .val (.ref a5), .val (.ref a6), .val (.ref a7)] [(.ref b6)])) _
    refine XS.aload X6.here hx rfl (hb hby e10_1_20) rfl rfl ?_
    refine st7 _ ?_
    show Steps p.tables e below (T7.setTop (mkF m 25 #[.val (.ref a1), .val (.ref a2), .val (.ref a3), .val (.int p4), .val (.ref a5), .val (.ref a6), .val (.ref a7)] [])) _
    refine st8 _ ?_
    show Steps p.tables e below (T8.setTop (mkF m 27 #[.val (.ref a1), .val (.ref a2), .val (.ref a3), .val (.int p4), .val (.ref a5), .val (.ref a6), .val (.ref a7)] [(.ref b8)])) _
    refine XS.aload X8.here hx rfl (hb hby e10_1_27) rfl rfl ?_
    refine st9 _ ?_
    show Steps p.tables e below (T9.setTop (mkF m 32 #[.val (.ref a1), .val (.ref a2), .val (.ref a3), .val (.int p4), .val (.ref a5), .val (.ref a6), .val (.ref a7)] [])) _
    refine XS.aload X9.here hx rfl (hb hby e10_1_32) rfl rfl ?_
    refine st10 _ ?_
    show Steps p.tables e below (T10.setTop (mkF m 37 #[.val (.ref a1), .val (.ref a2), .val (.ref a3), .val (.int p4), .val (.ref a5), .val (.ref a6), .val (.ref a7)] [(.ref b10)])) _
    refine st11 _ ?_
    show Steps p.tables e below (T11.setTop (mkF m 40 #[.val (.ref a1), .val (.ref a2), .val (.ref a3), .val (.int p4), .val (.ref a5), .val (.ref a6), .val (.ref a7)] [(.ref b10)])) _
    refine XS.astore X11.here hx rfl (hb hby e10_1_40) rfl rfl (l' := #[.val (.ref a1), .val (.ref a2), .val (.ref a3), .val (.int p4), .val (.ref a5), .val (.ref a6), .val (.ref b10)]) rfl ?_
    show Steps p.tables e below (T11.setTop (mkF m 42 #[.val (.ref a1), .val (.ref a2), .val (.ref a3), .val (.int p4), .val (.ref a5), .val (.ref a6), .val (.ref b10)] [])) _
    refine XS.aloadN X11.here hx rfl (hb hby e10_1_42) rfl rfl ?_
    refine XS.aloadN X11.here hx rfl (hb hby e10_1_43) rfl rfl ?_
    refine st12 _ ?_
    show Steps p.tables e below (T12.setTop (mkF m 47 #[.val (.ref a1), .val (.ref a2), .val (.ref a3), .val (.int p4), .val (.ref a5), .val (.ref a6), .val (.ref b10)] [])) _
    refine XS.aloadN X12.here hx rfl (hb hby e10_1_47) rfl rfl ?_
    refine XS.aloadN X12.here hx rfl (hb hby e10_1_48) rfl rfl ?_
    refine st13 _ ?_
    show Steps p.tables e below (T13.setTop (mkF m 52 #[.val (.ref a1), .val (.ref a2), .val (.ref a3), .val (.int p4), .val (.ref a5), .val (.ref a6), .val (.ref b10)] [])) _
    refine XS.aloadN X13.here hx rfl (hb hby e10_1_52) rfl rfl ?_
    refine XS.iloadN X13.here hx rfl (hb hby e10_1_53) rfl ?_
    refine st14 _ ?_
    show Steps p.tables e below (T14.setTop (mkF m 57 #[.val (.ref a1), .val (.ref a2), .val (.ref a3), .val (.int p4), .val (.ref a5), .val (.ref a6), .val (.ref b10)] [])) _
    refine XS.aloadN X14.here hx rfl (hb hby e10_1_57) rfl rfl ?_
    refine XS.aload X14.here hx rfl (hb hby e10_1_58) rfl rfl ?_
    refine st15 _ ?_
    show Steps p.tables e below (T15.setTop (mkF m 63 #[.val (.ref a1), .val (.ref a2), .val (.ref a3), .val (.int p4), .val (.ref a5), .val (.ref a6), .val (.ref b10)] [])) _
    refine XS.aloadN X15.here hx rfl (hb hby e10_1_63) rfl rfl ?_
    refine XS.aload X15.here hx rfl (hb hby e10_1_64) rfl rfl ?_
    refine st16 _ ?_
    show Steps p.tables e below (T16.setTop (mkF m 69 #[.val (.ref a1), .val (.ref a2), .val (.ref a3), .val (.int p4), .val (.ref a5), .val (.ref a6), .val (.ref b10)] [])) _
    refine XS.aloadN X16.here hx rfl (hb hby e10_1_69) rfl rfl ?_
    refine XS.aload X16.here hx rfl (hb hby e10_1_70) rfl rfl ?_
    refine st17 _ ?_
    show Steps p.tables e below (T17.setTop (mkF m 75 #[.val (.ref a1), .val (.ref a2), .val (.ref a3), .val (.int p4), .val (.ref a5), .val (.ref a6), .val (.ref b10)] [])) _
    exact X17.returnOut hx Bd.returns (hb hby e10_1_75) hr
  · show Q_rmMI Z a1 a2 a3 p4 a5 a6 a7 ta ka tb kb kc cu zc h0 n0 _ T17.heap _
    rw [e17]
    exact ⟨rfl, N17, Q17, (((((Fw12.other W13 (Or.inr (slot_ne (Or.inr (own_t hw 95 rfl)) (Or.inr (own_t hw 97 rfl)) (by decide) (t := (.object "java/lang/String")) (t' := (.object "java/lang/String")) (by decide) (by decide)))).other W14 (Or.inr (slot_ne (Or.inr (own_t hw 95 rfl)) (Or.inr (own_t hw 99 rfl)) (by decide) (t := (.object "java/lang/String")) (t' := .boolean) (by decide) (by decide)))).other W15 (Or.inr (slot_ne (Or.inr (own_t hw 95 rfl)) (Or.inr (own_t hw 101 rfl)) (by decide) (t := (.object "java/lang/String")) (t' := (.object "java/lang/String")) (by decide) (by decide)))).other W16 (Or.inr (slot_ne (Or.inr (own_t hw 95 rfl)) (Or.inr (own_t hw 103 rfl)) (by decide) (t := (.object "java/lang/String")) (t' := (.object "java/lang/String")) (by decide) (by decide)))).other W17 (Or.inr (slot_ne (Or.inr (own_t hw 95 rfl)) (Or.inr (own_t hw 105 rfl)) (by decide) (t := (.object "java/lang/String")) (t' := (.array .byte)) (by decide) (by decide)))), ((((Fw13.other W14 (Or.inr (slot_ne (Or.inr (own_t hw 97 rfl)) (Or.inr (own_t hw 99 rfl)) (by decide) (t := (.object "java/lang/String")) (t' := .boolean) (by decide) (by decide)))).other W15 (Or.inr (slot_ne (Or.inr (own_t hw 97 rfl)) (Or.inr (own_t hw 101 rfl)) (by decide) (t := (.object "java/lang/String")) (t' := (.object "java/lang/String")) (by decide) (by decide)))).other W16 (Or.inr (slot_ne (Or.inr (own_t hw 97 rfl)) (Or.inr (own_t hw 103 rfl)) (by decide) (t := (.object "java/lang/String")) (t' := (.object "java/lang/String")) (by decide) (by decide)))).other W17 (Or.inr (slot_ne (Or.inr (own_t hw 97 rfl)) (Or.inr (own_t hw 105 rfl)) (by decide) (t := (.object "java/lang/String")) (t' := (.array .byte)) (by decide) (by decide)))), (((Fw14.other W15 (Or.inr (slot_ne (Or.inr (own_t hw 99 rfl)) (Or.inr (own_t hw 101 rfl)) (by decide) (t := .boolean) (t' := (.object "java/lang/String")) (by decide) (by decide)))).other W16 (Or.inr (slot_ne (Or.inr (own_t hw 99 rfl)) (Or.inr (own_t hw 103 rfl)) (by decide) (t := .boolean) (t' := (.object "java/lang/String")) (by decide) (by decide)))).other W17 (Or.inr (slot_ne (Or.inr (own_t hw 99 rfl)) (Or.inr (own_t hw 105 rfl)) (by decide) (t := .boolean) (t' := (.array .byte)) (by decide) (by decide))))⟩
  · show CHr Z own_EL s.vm s.heap T17.vm T17.heap
    rw [hh, e17]
    exact CHr.trans CH17 (CHv.at X17 hZ8 (own_EW Z a0 hw) CH17.1)
theorem e10_2_0 : decode prog_10_method_2_code 0 = .ok (.new 50, 3) := by decide +kernel
theorem e10_2_3 : decode prog_10_method_2_code 3 = .ok (.dup, 1) := by decide +kernel
theorem e10_2_4 : decode prog_10_method_2_code 4 = .ok (.invokespecial 52, 3) := by decide +kernel
theorem e10_2_7 : decode prog_10_method_2_code 7 = .ok (.aload_n 0, 1) := by decide +kernel
theorem e10_2_8 : decode prog_10_method_2_code 8 = .ok (.getfield 38, 3) := by decide +kernel
theorem e10_2_11 : decode prog_10_method_2_code 11 = .ok (.ifCond .eq 8, 3) := by decide +kernel
theorem e10_2_14 : decode prog_10_method_2_code 14 = .ok (.ldc 53, 2) := by decide +kernel
theorem e10_2_16 : decode prog_10_method_2_code 16 = .ok (.goto 5, 3) := by decide +kernel
theorem e10_2_21 : decode prog_10_method_2_code 21 = .ok (.invokevirtual 56, 3) := by decide +kernel
theorem pd_25 : parseMethodDescriptor "(Ljava/lang/String;)Ljava/lang/StringBuilder;" = some ⟨[(.object "java/lang/String")], some (.object "java/lang/StringBuilder")⟩ := by decide +kernel
theorem e10_2_24 : decode prog_10_method_2_code 24 = .ok (.ldc 60, 2) := by decide +kernel
theorem e10_2_26 : decode prog_10_method_2_code 26 = .ok (.invokevirtual 56, 3) := by decide +kernel
theorem e10_2_29 : decode prog_10_method_2_code 29 = .ok (.aload_n 0, 1) := by decide +kernel
theorem e10_2_30 : decode prog_10_method_2_code 30 = .ok (.getfield 33, 3) := by decide +kernel
theorem e10_2_33 : decode prog_10_method_2_code 33 = .ok (.invokevirtual 56, 3) := by decide +kernel
theorem e10_2_36 : decode prog_10_method_2_code 36 = .ok (.ldc 62, 2) := by decide +kernel
theorem e10_2_38 : decode prog_10_method_2_code 38 = .ok (.invokevirtual 56, 3) := by decide +kernel
theorem e10_2_41 : decode prog_10_method_2_code 41 = .ok (.aload_n 0, 1) := by decide +kernel
theorem e10_2_42 : decode prog_10_method_2_code 42 = .ok (.getfield 36, 3) := by decide +kernel
theorem e10_2_45 : decode prog_10_method_2_code 45 = .ok (.invokevirtual 56, 3) := by decide +kernel
theorem e10_2_48 : decode prog_10_method_2_code 48 = .ok (.invokevirtual 64, 3) := by decide +kernel
theorem pd_26 : parseMethodDescriptor "()Ljava/lang/String;" = some ⟨[], some (.object "java/lang/String")⟩ := by decide +kernel
theorem e10_2_51 : decode prog_10_method_2_code 51 = .ok (.areturn, 1) := by decide +kernel
def Q_rmD1 (Z : State) (a1 : Addr) (a2 : Addr) (ta : Addr) (ka : ClassId) (a3 : Addr) (tb : Addr) (kb : ClassId) (x1 : Int32) (x2 : Int32) (x3 : Int32) (x4 : Int32) (zc : Int32) (h0 : Heap) (n0 : Nat) (v : Option Value) (h : Heap) (L : List Loc) : Prop := ∃ (b : Addr) (t : Addr) (kt : ClassId), v = some (.ref b) ∧ Fr n0 L ∧ Keep h0 h [] ∧ n0 ≤ b ∧ h0.size ≤ b ∧ n0 ≤ t ∧ h0.size ≤ t ∧ Exa Z h b "java/lang/String" ∧ Fld Z h b "java/lang/String" "value" "[B" (.ref t) ∧ Fld Z h b "java/lang/String" "coder" "B" (.int 0) ∧ Arv Z h t kt .byte (44 : Int32) [(.int 114), (.int 101), (.int 108), (.int 105), (.int 97), (.int 98), (.int 108), (.int 101), (.int 32), (.int 109), (.int 101), (.int 115), (.int 115), (.int 97), (.int 103), (.int 101), (.int 32), (.int x1), (.int x2), (.int 32), (.int 111), (.int 102), (.int 32), (.int 103), (.int 108), (.int 111), (.int 98), (.int 97), (.int 108), (.int 32), (.int 116), (.int 114), (.int 97), (.int 110), (.int 115), (.int 97), (.int 99), (.int 116), (.int 105), (.int 111), (.int 110), (.int 32), (.int x3), (.int x4)] (.int 0)
set_option maxRecDepth 65536 in
set_option maxHeartbeats 40000000 in
theorem rmD1 (l : Launch) (Z : State) (a0 : Array Value) (hw : ∀ d ∈ tables_1, d.before a0 Z = true) (ws : List Jvm.Cond) (a1 : Addr) (a2 : Addr) (ta : Addr) (ka : ClassId) (a3 : Addr) (tb : Addr) (kb : ClassId) (x1 : Int32) (x2 : Int32) (x3 : Int32) (x4 : Int32) (zc : Int32) (h0 : Heap) (n0 : Nat) (Z0 : n0 ≤ h0.size) (F_id_a1 : Fld Z h0 a1 "com/example/gentle_commit/gentlecommit/initiator/Message" "id" "Ljava/lang/String;" (.ref a2)) (F_gid_a1 : Fld Z h0 a1 "com/example/gentle_commit/gentlecommit/initiator/Message" "gid" "Ljava/lang/String;" (.ref a3)) (F_reliable_a1 : Fld Z h0 a1 "com/example/gentle_commit/gentlecommit/initiator/Message" "reliable" "Z" (.int 1)) (E_a2 : Exa Z h0 a2 "java/lang/String") (F_value_a2 : Fld Z h0 a2 "java/lang/String" "value" "[B" (.ref ta)) (F_coder_a2 : Fld Z h0 a2 "java/lang/String" "coder" "B" (.int 0)) (V_ta : Arv Z h0 ta ka .byte (2 : Int32) [(.int x1), (.int x2)] (.int 0)) (E_a3 : Exa Z h0 a3 "java/lang/String") (F_value_a3 : Fld Z h0 a3 "java/lang/String" "value" "[B" (.ref tb)) (F_coder_a3 : Fld Z h0 a3 "java/lang/String" "coder" "B" (.int 0)) (V_tb : Arv Z h0 tb kb .byte (2 : Int32) [(.int x3), (.int x4)] (.int 0)) (S_COMPACT_STRINGS_ : Sta Z h0 "java/lang/String" "COMPACT_STRINGS" "Z" (.int zc)) (hzc : ¬ zc = 0) :
    MetFree l (⟨"com/example/gentle_commit/gentlecommit/initiator/Message", "describe", "()Ljava/lang/String;"⟩ : MethodName) (head1 (Jvm.Cond.code (⟨"com/example/gentle_commit/gentlecommit/initiator/Message", "describe", "()Ljava/lang/String;"⟩ : MethodName) prog_10_method_2_code 1 (some (.object "java/lang/String")) :: ws) ({ frames := 6, cells := 12, slots := 344, locals := 91 } : Room)) (fun a U => a = #[(.ref a1)] ∧ Z.Warmed39 U.vm ∧ U.heap = h0 ∧ CHv Z own_EL U.vm h0) (fun _ _ _ _ _ => True) (fun _ U o U' => ∃ v L, o = .returned v ∧ Q_rmD1 Z a1 a2 ta ka a3 tb kb x1 x2 x3 x4 zc h0 n0 v U'.heap L ∧ CHr Z own_EL U.vm U.heap U'.vm U'.heap ∧ ReturnedEndW U o U' L ({ frames := 6, cells := 12, slots := 344, locals := 91 } : Room).cells ({ frames := 6, cells := 12, slots := 344, locals := 91 } : Room).slots) := by
  refine MetFree.of_bodySF (plainFor_of_name pn_7) hisR ?_
  intro p e s m args below meth c s₁ Bd hml0 hP hK
  obtain ⟨rfl, hZ, hh, hCH⟩ := hP
  have hx := Bd.exec
  have hby := Bd.bytes
  have hml : c.maxLocals = 1 := hml0
  have hown : s.vm.findClass "com/example/gentle_commit/gentlecommit/initiator/Message" = some m.cls := findClass_of_methodNamed Bd.named
  have hnm := (name_of_methodNamed Bd.named Bd.method).1
  have X0 : Stand p l e ({ frames := 6, cells := 12, slots := 344, locals := 91 } : Room) s m #[(.ref a1)] below meth c s₁ [] 0 0 := Stand.of_body Bd
  have e0 : s₁.heap = h0 := by rw [← hh, Bd.state]; rfl
  have N0 := Fr.nil n0
  have pre0 : ∀ t, Steps p.tables e below (s₁.setTop (mkF m 0 #[.val (.ref a1)] [])) t → Steps p.tables e below (s₁.setTop (entryFrame m #[(.ref a1)] 1)) t := fun t k => castTop (ef_0 m a1) k
  have X0w : Stand p l e ({ frames := 6, cells := 12, slots := 344, locals := 91 } : Room) (s.setVm s.vm) m #[(.ref a1)] below meth c s₁ [] 0 0 := X0
  have hZ0 : Z.Warmed39 (s.setVm s.vm).vm := hZ
  have hown0 : (s.setVm s.vm).vm.findClass "com/example/gentle_commit/gentlecommit/initiator/Message" = some m.cls := hown
  have hS0 : s.Since s.vm 0 := (State.WarmedH.refl s).since 0
  have hk0 : 0 ≤ h0.size := Nat.zero_le _
  have CH0 : CHr Z own_EL s.vm h0 s.vm h0 := CHr.refl hCH
  obtain ⟨T1, h1, X1, e1, E1, A1, D1, -, st1⟩ := newO X0w hx hZ0 hown0 (own_t hw 111 rfl) (own_t hw 112 rfl) (own_t hw 113 rfl) e0 (g := (mkF m 0 #[.val (.ref a1)] [])) rfl (hb hby e10_2_0) (by decide) (by decide)
  obtain ⟨b1, gg1⟩ : ∃ z, z = h0.size := ⟨_, rfl⟩
  rw [← gg1] at A1 D1 st1
  have CH1 := CHr.trans CH0 (CHr.ext E1 CH0.1)
  have g_b1 : n0 ≤ b1 := Nat.le_trans Z0 (Nat.le_of_eq gg1.symm)
  have sz_b1 : h0.size ≤ b1 := Nat.le_trans (Keep.refl h0 []).1 (Nat.le_of_eq gg1.symm)
  have Q1 : Keep h0 h1 [] := (Keep.refl h0 []).ext E1
  have F_value_b1 : Fld Z h1 b1 "java/lang/AbstractStringBuilder" "value" "[B" .null := D1 (Or.inl (own_t hw 126 rfl)) (ty := (.array .byte)) (by decide)
  have F_coder_b1 : Fld Z h1 b1 "java/lang/AbstractStringBuilder" "coder" "B" (.int 0) := D1 (Or.inl (own_t hw 128 rfl)) (ty := .byte) (by decide)
  have F_count_b1 : Fld Z h1 b1 "java/lang/AbstractStringBuilder" "count" "I" (.int 0) := D1 (Or.inl (own_t hw 146 rfl)) (ty := .int) (by decide)
  obtain ⟨_, _, ⟨T2, LL2, kk2, nn2⟩, -, X2, ⟨Lc2, hQ2, l2, y2, z2⟩, st2⟩ := X1.specialBack hx (y := (⟨"java/lang/StringBuilder", "<init>", "()V"⟩ : MethodName)) rfl hown0 (mvT hZ0 (own_t hw 114 rfl)) (mvT hZ0 (own_t hw 115 rfl)) (mvT hZ0 (own_t hw 116 rfl)) (by decide) (backOf (W := 1) (rmSI l Z a0 hw [] b1 zc h1 n0 (Nat.le_trans Z0 E1.1) A1 F_value_b1 F_coder_b1 F_count_b1 g_b1 (S_COMPACT_STRINGS_.ext E1) (hzc)) hZ0 (own_t hw 116 rfl) (own_t hw 113 rfl) (by decide) (by decide)) (g := (mkF m 4 #[.val (.ref a1)] [(.ref b1), (.ref b1)])) rfl (by rw [hml]; rfl) (Steps.refl _) (a := b1) (argsL := []) (rest := [(.ref b1)]) (lenOf pd_23 rfl) rfl (by show 2 * 0 + _ ≤ _; exact Nat.le_of_eq rfl) (hb hby e10_2_4) (fun _ _ => ⟨rfl, e1, (by decide : 1 + 1 ≤ _), (by decide : 4 + 16 ≤ _)⟩)
  dsimp only [Pt.U, Pt.locs, Pt.cells, Pt.slots] at X2 l2 y2 z2 st2 hQ2
  subst l2 y2 z2
  obtain ⟨t_2, kt_2, rfl, N2q, K2, g_t_2, sq_t_2, p2_0, p2_1, p2_2, p2_3⟩ := hQ2
  have N2 := Fr.app N0 N2q
  have St_2_2 := Safe.keep K2 (sfS (Safe.exa hZ0.alike A1 (by decide) (by decide)) sf0) CH1.1 (Safe.new (vm := _) sq_t_2)
  have CH2 := CHr.trans CH1 (CHr.keep K2 (sfS (Safe.exa hZ0.alike A1 (by decide) (by decide)) sf0) CH1.1)
  have sz_t_2 : h0.size ≤ t_2 := Nat.le_trans Q1.1 sq_t_2
  have Q2 : Keep h0 T2.heap [] := Q1.trans K2 (allS (Or.inr sz_b1) all0)
  have nq0 : a1 ≠ b1 := (Nat.ne_of_lt (Nat.lt_of_lt_of_le F_id_a1.lt (Nat.le_of_eq gg1.symm)))
  obtain ⟨T3, X3, e3, st3⟩ := getF X2 hx hZ0 hown0 (host := "") (Or.inl (own_t hw 98 rfl)) Via.refl rfl ((F_reliable_a1.ext E1).keep K2 (ninS nq0 nin0)) (g := (mkF m 8 #[.val (.ref a1)] [(.ref a1), (.ref b1)])) rfl rfl (hb hby e10_2_8)
  obtain ⟨b4, T4, h4, k4, t4, c4, X4, e4, E4, hS4, hk4, hZ4, hown4, EA4, FC4, FV4, AV4, -, -, C4, -, SN4, st4⟩ := ldcCH X3 hx hZ0 hown0 (own_t hw 246 rfl) (own_wS Z a0 hw) e3 hS0 (Nat.le_trans (Nat.le_trans hk0 E1.1) K2.1) (own_EW Z a0 hw) (List.mem_of_getElem? (i := 0) rfl) CH2.1 (vs := [(.int 114), (.int 101), (.int 108), (.int 105), (.int 97), (.int 98), (.int 108), (.int 101)]) (z := (8 : Int32)) (by decide) (by decide) rfl (g := (mkF m 14 #[.val (.ref a1)] [(.ref b1)])) rfl (hb hby e10_2_14) (n := 32) (by decide) (by decide) (by decide) (by decide)
  have St_2_4 := CHr.safe C4 p2_3.lt St_2_2
  have CH4 := CHr.trans CH2 (C4)
  have Q4 : Keep h0 h4 [] := Q2.ext E4
  obtain ⟨cq5, kq5, q5a, q5b, q5c⟩ := isOf hZ4 e4 ((A1.keep K2).ext E4)
  obtain ⟨_, _, ⟨T5, LL5, kk5, nn5⟩, -, X5, ⟨Lc5, hQ5, l5, y5, z5⟩, st5⟩ := X4.virtualBack hx (y := (⟨"java/lang/StringBuilder", "append", "(Ljava/lang/String;)Ljava/lang/StringBuilder;"⟩ : MethodName)) (z := (⟨"java/lang/StringBuilder", "append", "(Ljava/lang/String;)Ljava/lang/StringBuilder;"⟩ : MethodName)) hown4 (mvT hZ4 (own_t hw 130 rfl)) (mvT hZ4 (own_t hw 131 rfl)) (notFace_of_selects (args := #[]) (mvT hZ4 (own_t hw 133 rfl))) (mvT hZ4 (own_t hw 133 rfl)) (mvT hZ4 (own_t hw 132 rfl)) (by decide) (backOf (W := 0) (rmSA l Z a0 hw [] b1 b4 t_2 (0 : Int32) (8 : Int32) t4 c4 (8 : Int32) [(.int 114), (.int 101), (.int 108), (.int 105), (.int 97), (.int 98), (.int 108), (.int 101)] kt_2 (16 : Int32) [oz, oz, oz, oz, oz, oz, oz, oz, oz, oz, oz, oz, oz, oz, oz, oz] [(.int 114), (.int 101), (.int 108), (.int 105), (.int 97), (.int 98), (.int 108), (.int 101), oz, oz, oz, oz, oz, oz, oz, oz] zc h4 n0 (Nat.le_trans (Nat.le_trans (Nat.le_trans Z0 E1.1) K2.1) E4.1) ((A1.keep K2).ext E4) (p2_0.ext E4) (p2_1.ext E4) (p2_2.ext E4) g_b1 (p2_3.ext E4) g_t_2 EA4 FV4 FC4 AV4 ((own_sta_keep1 (S_COMPACT_STRINGS_.ext E1) K2 A1).ext E4) (hzc) (by decide) (by decide) (by decide) (by decide) (by decide) (Nat.le_of_ble_eq_true rfl) (rfl)) hZ4 (own_t hw 134 rfl) (own_t hw 113 rfl) (by decide) (by decide)) q5a q5c (g := (mkF m 21 #[.val (.ref a1)] [(.ref b4), (.ref b1)])) rfl (by rw [hml]; rfl) (Steps.refl _) (argsL := [(.ref b4)]) (rest := []) (lenOf pd_25 rfl) rfl (by show 2 * 0 + _ ≤ _; exact Nat.le_of_eq rfl) (hb hby e10_2_21) (fun _ _ => ⟨rfl, e4, (by decide : 4 + 0 ≤ _), (by decide : 56 + 0 ≤ _)⟩)
  dsimp only [Pt.U, Pt.locs, Pt.cells, Pt.slots] at X5 l5 y5 z5 st5 hQ5
  subst l5 y5 z5
  obtain ⟨rfl, N5q, K5, p5_0, p5_1, p5_2, p5_3⟩ := hQ5
  have N5 := Fr.app N2 N5q
  have St_2_5 := Safe.keep K5 (sfS (Safe.exa hZ4.alike ((A1.keep K2).ext E4) (by decide) (by decide)) (sfS St_2_4 sf0)) CH4.1 St_2_4
  have CH5 := CHr.trans CH4 (CHr.keep K5 (sfS (Safe.exa hZ4.alike ((A1.keep K2).ext E4) (by decide) (by decide)) (sfS St_2_4 sf0)) CH4.1)
  have Q5 : Keep h0 T5.heap [] := Q4.trans K5 (allS (Or.inr sz_b1) (allS (Or.inr sz_t_2) all0))
  obtain ⟨b6, T6, h6, k6, t6, c6, X6, e6, E6, hS6, hk6, hZ6, hown6, EA6, FC6, FV6, AV6, -, -, C6, -, SN6, st6⟩ := ldcCH X5 hx hZ4 hown4 (own_t hw 172 rfl) (own_wS Z a0 hw) rfl hS4 (Nat.le_trans hk4 K5.1) (own_EW Z a0 hw) (List.mem_of_getElem? (i := 2) rfl) CH5.1 (vs := [(.int 32), (.int 109), (.int 101), (.int 115), (.int 115), (.int 97), (.int 103), (.int 101), (.int 32)]) (z := (9 : Int32)) (by decide) (by decide) rfl (g := (mkF m 24 #[.val (.ref a1)] [(.ref b1)])) rfl (hb hby e10_2_24) (n := 36) (by decide) (by decide) (by decide) (by decide)
  have St_2_6 := CHr.safe C6 p5_3.lt St_2_5
  have CH6 := CHr.trans CH5 (C6)
  have Q6 : Keep h0 h6 [] := Q5.ext E6
  obtain ⟨cq7, kq7, q7a, q7b, q7c⟩ := isOf hZ6 e6 ((((A1.keep K2).ext E4).keep K5).ext E6)
  obtain ⟨_, _, ⟨T7, LL7, kk7, nn7⟩, -, X7, ⟨Lc7, hQ7, l7, y7, z7⟩, st7⟩ := X6.virtualBack hx (y := (⟨"java/lang/StringBuilder", "append", "(Ljava/lang/String;)Ljava/lang/StringBuilder;"⟩ : MethodName)) (z := (⟨"java/lang/StringBuilder", "append", "(Ljava/lang/String;)Ljava/lang/StringBuilder;"⟩ : MethodName)) hown6 (mvT hZ6 (own_t hw 130 rfl)) (mvT hZ6 (own_t hw 131 rfl)) (notFace_of_selects (args := #[]) (mvT hZ6 (own_t hw 133 rfl))) (mvT hZ6 (own_t hw 133 rfl)) (mvT hZ6 (own_t hw 132 rfl)) (by decide) (backOf (W := 0) (rmSA_16 l Z a0 hw [] b1 b6 (8 : Int32) (9 : Int32) (17 : Int32) t_2 kt_2 [(.int 114), (.int 101), (.int 108), (.int 105), (.int 97), (.int 98), (.int 108), (.int 101), oz, oz, oz, oz, oz, oz, oz, oz] t6 c6 [(.int 32), (.int 109), (.int 101), (.int 115), (.int 115), (.int 97), (.int 103), (.int 101), (.int 32)] [(.int 114), (.int 101), (.int 108), (.int 105), (.int 97), (.int 98), (.int 108), (.int 101), oz, oz, oz, oz, oz, oz, oz, oz, oz, oz, oz, oz, oz, oz, oz, oz, oz, oz, oz, oz, oz, oz, oz, oz, oz, oz] [(.int 114), (.int 101), (.int 108), (.int 105), (.int 97), (.int 98), (.int 108), (.int 101), (.int 32), (.int 109), (.int 101), (.int 115), (.int 115), (.int 97), (.int 103), (.int 101), (.int 32), oz, oz, oz, oz, oz, oz, oz, oz, oz, oz, oz, oz, oz, oz, oz, oz, oz] zc h6 n0 (Nat.le_trans (Nat.le_trans (Nat.le_trans (Nat.le_trans (Nat.le_trans Z0 E1.1) K2.1) E4.1) K5.1) E6.1) ((((A1.keep K2).ext E4).keep K5).ext E6) (p5_0.ext E6) (p5_1.ext E6) (p5_2.ext E6) g_b1 (p5_3.ext E6) EA6 FV6 FC6 AV6 ((own_sta_keep ((own_sta_keep1 (S_COMPACT_STRINGS_.ext E1) K2 A1).ext E4) K5 (fun _ _ q1 q2 => (ninS (own_nst_exa ((A1.keep K2).ext E4) q1 q2) (ninS (own_nst_arv (p2_3.ext E4) q1 q2) nin0)))).ext E6) (hzc) (rfl) (by decide) (by decide) (by decide) (by decide) (by decide) (by decide) (Nat.le_of_ble_eq_true rfl) (rfl)) hZ6 (own_t hw 134 rfl) (own_t hw 113 rfl) (by decide) (by decide)) q7a q7c (g := (mkF m 26 #[.val (.ref a1)] [(.ref b6), (.ref b1)])) rfl (by rw [hml]; rfl) (Steps.refl _) (argsL := [(.ref b6)]) (rest := []) (lenOf pd_25 rfl) rfl (by show 2 * 0 + _ ≤ _; exact Nat.le_of_eq rfl) (hb hby e10_2_26) (fun _ _ => ⟨rfl, e6, (by decide : 6 + 1 ≤ _), (by decide : 96 + 34 ≤ _)⟩)
  dsimp only [Pt.U, Pt.locs, Pt.cells, Pt.slots] at X7 l7 y7 z7 st7 hQ7
  subst l7 y7 z7
  obtain ⟨r_7, kr_7, rfl, N7q, K7, g_r_7, sq_r_7, p7_0, p7_1, p7_2, p7_3⟩ := hQ7
  have N7 := Fr.app N5 N7q
  have St_2_7 := Safe.keep K7 (sfS (Safe.exa hZ6.alike ((((A1.keep K2).ext E4).keep K5).ext E6) (by decide) (by decide)) sf0) CH6.1 St_2_6
  have Sr_7_7 := Safe.keep K7 (sfS (Safe.exa hZ6.alike ((((A1.keep K2).ext E4).keep K5).ext E6) (by decide) (by decide)) sf0) CH6.1 (Safe.new (vm := _) sq_r_7)
  have CH7 := CHr.trans CH6 (CHr.keep K7 (sfS (Safe.exa hZ6.alike ((((A1.keep K2).ext E4).keep K5).ext E6) (by decide) (by decide)) sf0) CH6.1)
  have sz_r_7 : h0.size ≤ r_7 := Nat.le_trans Q6.1 sq_r_7
  have Q7 : Keep h0 T7.heap [] := Q6.trans K7 (allS (Or.inr sz_b1) all0)
  have nq1 : a1 ≠ t_2 := (Nat.ne_of_lt (Nat.lt_of_lt_of_le (F_id_a1.ext E1).lt sq_t_2))
  obtain ⟨T8, X8, e8, st8⟩ := getF X7 hx hZ6 hown6 (host := "") (Or.inl (own_t hw 94 rfl)) Via.refl rfl ((((((F_id_a1.ext E1).keep K2 (ninS nq0 nin0)).ext E4).keep K5 (ninS nq0 (ninS nq1 nin0))).ext E6).keep K7 (ninS nq0 nin0)) (g := (mkF m 30 #[.val (.ref a1)] [(.ref a1), (.ref b1)])) rfl rfl (hb hby e10_2_30)
  have nq2 : a2 ≠ b1 := (Nat.ne_of_lt (Nat.lt_of_lt_of_le E_a2.lt (Nat.le_of_eq gg1.symm)))
  have nq3 : a2 ≠ t_2 := (Nat.ne_of_lt (Nat.lt_of_lt_of_le (E_a2.ext E1).lt sq_t_2))
  have nq4 : ta ≠ b1 := (Nat.ne_of_lt (Nat.lt_of_lt_of_le V_ta.lt (Nat.le_of_eq gg1.symm)))
  have nq5 : ta ≠ t_2 := (Nat.ne_of_lt (Nat.lt_of_lt_of_le (V_ta.ext E1).lt sq_t_2))
  obtain ⟨cq9, kq9, q9a, q9b, q9c⟩ := isOf hZ6 e8 (((((A1.keep K2).ext E4).keep K5).ext E6).keep K7)
  obtain ⟨_, _, ⟨T9, LL9, kk9, nn9⟩, -, X9, ⟨Lc9, hQ9, l9, y9, z9⟩, st9⟩ := X8.virtualBack hx (y := (⟨"java/lang/StringBuilder", "append", "(Ljava/lang/String;)Ljava/lang/StringBuilder;"⟩ : MethodName)) (z := (⟨"java/lang/StringBuilder", "append", "(Ljava/lang/String;)Ljava/lang/StringBuilder;"⟩ : MethodName)) hown6 (mvT hZ6 (own_t hw 130 rfl)) (mvT hZ6 (own_t hw 131 rfl)) (notFace_of_selects (args := #[]) (mvT hZ6 (own_t hw 133 rfl))) (mvT hZ6 (own_t hw 133 rfl)) (mvT hZ6 (own_t hw 132 rfl)) (by decide) (backOf (W := 0) (rmSA l Z a0 hw [] b1 a2 r_7 (17 : Int32) (19 : Int32) ta ka (2 : Int32) [(.int x1), (.int x2)] kr_7 (34 : Int32) [(.int 114), (.int 101), (.int 108), (.int 105), (.int 97), (.int 98), (.int 108), (.int 101), (.int 32), (.int 109), (.int 101), (.int 115), (.int 115), (.int 97), (.int 103), (.int 101), (.int 32), oz, oz, oz, oz, oz, oz, oz, oz, oz, oz, oz, oz, oz, oz, oz, oz, oz] [(.int 114), (.int 101), (.int 108), (.int 105), (.int 97), (.int 98), (.int 108), (.int 101), (.int 32), (.int 109), (.int 101), (.int 115), (.int 115), (.int 97), (.int 103), (.int 101), (.int 32), (.int x1), (.int x2), oz, oz, oz, oz, oz, oz, oz, oz, oz, oz, oz, oz, oz, oz, oz] zc T7.heap n0 (Nat.le_trans (Nat.le_trans (Nat.le_trans (Nat.le_trans (Nat.le_trans (Nat.le_trans Z0 E1.1) K2.1) E4.1) K5.1) E6.1) K7.1) (((((A1.keep K2).ext E4).keep K5).ext E6).keep K7) p7_0 p7_1 p7_2 g_b1 p7_3 g_r_7 ((((((E_a2.ext E1).keep K2).ext E4).keep K5).ext E6).keep K7) ((((((F_value_a2.ext E1).keep K2 (ninS nq2 nin0)).ext E4).keep K5 (ninS nq2 (ninS nq3 nin0))).ext E6).keep K7 (ninS nq2 nin0)) ((((((F_coder_a2.ext E1).keep K2 (ninS nq2 nin0)).ext E4).keep K5 (ninS nq2 (ninS nq3 nin0))).ext E6).keep K7 (ninS nq2 nin0)) ((((((V_ta.ext E1).keep K2 (ninS nq4 nin0)).ext E4).keep K5 (ninS nq4 (ninS nq5 nin0))).ext E6).keep K7 (ninS nq4 nin0)) (own_sta_keep1 ((own_sta_keep ((own_sta_keep1 (S_COMPACT_STRINGS_.ext E1) K2 A1).ext E4) K5 (fun _ _ q1 q2 => (ninS (own_nst_exa ((A1.keep K2).ext E4) q1 q2) (ninS (own_nst_arv (p2_3.ext E4) q1 q2) nin0)))).ext E6) K7 ((((A1.keep K2).ext E4).keep K5).ext E6)) (hzc) (by decide) (by decide) (by decide) (by decide) (by decide) (Nat.le_of_ble_eq_true rfl) (rfl)) hZ6 (own_t hw 134 rfl) (own_t hw 113 rfl) (by decide) (by decide)) q9a q9c (g := (mkF m 33 #[.val (.ref a1)] [(.ref a2), (.ref b1)])) rfl (by rw [hml]; rfl) (Steps.refl _) (argsL := [(.ref a2)]) (rest := []) (lenOf pd_25 rfl) rfl (by show 2 * 0 + _ ≤ _; exact Nat.le_of_eq rfl) (hb hby e10_2_33) (fun _ _ => ⟨rfl, e8, (by decide : 7 + 0 ≤ _), (by decide : 130 + 0 ≤ _)⟩)
  dsimp only [Pt.U, Pt.locs, Pt.cells, Pt.slots] at X9 l9 y9 z9 st9 hQ9
  subst l9 y9 z9
  obtain ⟨rfl, N9q, K9, p9_0, p9_1, p9_2, p9_3⟩ := hQ9
  have N9 := Fr.app N7 N9q
  have St_2_9 := Safe.keep K9 (sfS (Safe.exa hZ6.alike (((((A1.keep K2).ext E4).keep K5).ext E6).keep K7) (by decide) (by decide)) (sfS Sr_7_7 sf0)) CH7.1 St_2_7
  have Sr_7_9 := Safe.keep K9 (sfS (Safe.exa hZ6.alike (((((A1.keep K2).ext E4).keep K5).ext E6).keep K7) (by decide) (by decide)) (sfS Sr_7_7 sf0)) CH7.1 Sr_7_7
  have CH9 := CHr.trans CH7 (CHr.keep K9 (sfS (Safe.exa hZ6.alike (((((A1.keep K2).ext E4).keep K5).ext E6).keep K7) (by decide) (by decide)) (sfS Sr_7_7 sf0)) CH7.1)
  have Q9 : Keep h0 T9.heap [] := Q7.trans K9 (allS (Or.inr sz_b1) (allS (Or.inr sz_r_7) all0))
  obtain ⟨b10, T10, h10, k10, t10, c10, X10, e10, E10, hS10, hk10, hZ10, hown10, EA10, FC10, FV10, AV10, -, -, C10, -, SN10, st10⟩ := ldcCH X9 hx hZ6 hown6 (own_t hw 196 rfl) (own_wS Z a0 hw) rfl hS6 (Nat.le_trans (Nat.le_trans hk6 K7.1) K9.1) (own_EW Z a0 hw) (List.mem_of_getElem? (i := 3) rfl) CH9.1 (vs := [(.int 32), (.int 111), (.int 102), (.int 32), (.int 103), (.int 108), (.int 111), (.int 98), (.int 97), (.int 108), (.int 32), (.int 116), (.int 114), (.int 97), (.int 110), (.int 115), (.int 97), (.int 99), (.int 116), (.int 105), (.int 111), (.int 110), (.int 32)]) (z := (23 : Int32)) (by decide) (by decide) rfl (g := (mkF m 36 #[.val (.ref a1)] [(.ref b1)])) rfl (hb hby e10_2_36) (n := 92) (by decide) (by decide) (by decide) (by decide)
  have nq6 : t_2 ≠ b1 := (Ne.symm (Nat.ne_of_lt (Nat.lt_of_lt_of_le A1.lt sq_t_2)))
  have nq7 : t_2 ≠ r_7 := (Nat.ne_of_lt (Nat.lt_of_lt_of_le (p5_3.ext E6).lt sq_r_7))
  have St_2_10 := CHr.safe C10 (((p5_3.ext E6).keep K7 (ninS nq6 nin0)).keep K9 (ninS nq6 (ninS nq7 nin0))).lt St_2_9
  have Sr_7_10 := CHr.safe C10 p9_3.lt Sr_7_9
  have CH10 := CHr.trans CH9 (C10)
  have Q10 : Keep h0 h10 [] := Q9.ext E10
  obtain ⟨cq11, kq11, q11a, q11b, q11c⟩ := isOf hZ10 e10 (((((((A1.keep K2).ext E4).keep K5).ext E6).keep K7).keep K9).ext E10)
  obtain ⟨_, _, ⟨T11, LL11, kk11, nn11⟩, -, X11, ⟨Lc11, hQ11, l11, y11, z11⟩, st11⟩ := X10.virtualBack hx (y := (⟨"java/lang/StringBuilder", "append", "(Ljava/lang/String;)Ljava/lang/StringBuilder;"⟩ : MethodName)) (z := (⟨"java/lang/StringBuilder", "append", "(Ljava/lang/String;)Ljava/lang/StringBuilder;"⟩ : MethodName)) hown10 (mvT hZ10 (own_t hw 130 rfl)) (mvT hZ10 (own_t hw 131 rfl)) (notFace_of_selects (args := #[]) (mvT hZ10 (own_t hw 133 rfl))) (mvT hZ10 (own_t hw 133 rfl)) (mvT hZ10 (own_t hw 132 rfl)) (by decide) (backOf (W := 0) (rmSA_34 l Z a0 hw [] b1 b10 (19 : Int32) (23 : Int32) (42 : Int32) r_7 kr_7 [(.int 114), (.int 101), (.int 108), (.int 105), (.int 97), (.int 98), (.int 108), (.int 101), (.int 32), (.int 109), (.int 101), (.int 115), (.int 115), (.int 97), (.int 103), (.int 101), (.int 32), (.int x1), (.int x2), oz, oz, oz, oz, oz, oz, oz, oz, oz, oz, oz, oz, oz, oz, oz] t10 c10 [(.int 32), (.int 111), (.int 102), (.int 32), (.int 103), (.int 108), (.int 111), (.int 98), (.int 97), (.int 108), (.int 32), (.int 116), (.int 114), (.int 97), (.int 110), (.int 115), (.int 97), (.int 99), (.int 116), (.int 105), (.int 111), (.int 110), (.int 32)] [(.int 114), (.int 101), (.int 108), (.int 105), (.int 97), (.int 98), (.int 108), (.int 101), (.int 32), (.int 109), (.int 101), (.int 115), (.int 115), (.int 97), (.int 103), (.int 101), (.int 32), (.int x1), (.int x2), oz, oz, oz, oz, oz, oz, oz, oz, oz, oz, oz, oz, oz, oz, oz, oz, oz, oz, oz, oz, oz, oz, oz, oz, oz, oz, oz, oz, oz, oz, oz, oz, oz, oz, oz, oz, oz, oz, oz, oz, oz, oz, oz, oz, oz, oz, oz, oz, oz, oz, oz] [(.int 114), (.int 101), (.int 108), (.int 105), (.int 97), (.int 98), (.int 108), (.int 101), (.int 32), (.int 109), (.int 101), (.int 115), (.int 115), (.int 97), (.int 103), (.int 101), (.int 32), (.int x1), (.int x2), (.int 32), (.int 111), (.int 102), (.int 32), (.int 103), (.int 108), (.int 111), (.int 98), (.int 97), (.int 108), (.int 32), (.int 116), (.int 114), (.int 97), (.int 110), (.int 115), (.int 97), (.int 99), (.int 116), (.int 105), (.int 111), (.int 110), (.int 32), oz, oz, oz, oz, oz, oz, oz, oz, oz, oz, oz, oz, oz, oz, oz, oz, oz, oz, oz, oz, oz, oz, oz, oz, oz, oz, oz, oz] zc h10 n0 (Nat.le_trans (Nat.le_trans (Nat.le_trans (Nat.le_trans (Nat.le_trans (Nat.le_trans (Nat.le_trans (Nat.le_trans Z0 E1.1) K2.1) E4.1) K5.1) E6.1) K7.1) K9.1) E10.1) (((((((A1.keep K2).ext E4).keep K5).ext E6).keep K7).keep K9).ext E10) (p9_0.ext E10) (p9_1.ext E10) (p9_2.ext E10) g_b1 (p9_3.ext E10) EA10 FV10 FC10 AV10 ((own_sta_keep (own_sta_keep1 ((own_sta_keep ((own_sta_keep1 (S_COMPACT_STRINGS_.ext E1) K2 A1).ext E4) K5 (fun _ _ q1 q2 => (ninS (own_nst_exa ((A1.keep K2).ext E4) q1 q2) (ninS (own_nst_arv (p2_3.ext E4) q1 q2) nin0)))).ext E6) K7 ((((A1.keep K2).ext E4).keep K5).ext E6)) K9 (fun _ _ q1 q2 => (ninS (own_nst_exa (((((A1.keep K2).ext E4).keep K5).ext E6).keep K7) q1 q2) (ninS (own_nst_arv p7_3 q1 q2) nin0)))).ext E10) (hzc) (rfl) (by decide) (by decide) (by decide) (by decide) (by decide) (by decide) (Nat.le_of_ble_eq_true rfl) (rfl)) hZ10 (own_t hw 134 rfl) (own_t hw 113 rfl) (by decide) (by decide)) q11a q11c (g := (mkF m 38 #[.val (.ref a1)] [(.ref b10), (.ref b1)])) rfl (by rw [hml]; rfl) (Steps.refl _) (argsL := [(.ref b10)]) (rest := []) (lenOf pd_25 rfl) rfl (by show 2 * 0 + _ ≤ _; exact Nat.le_of_eq rfl) (hb hby e10_2_38) (fun _ _ => ⟨rfl, e10, (by decide : 9 + 1 ≤ _), (by decide : 226 + 70 ≤ _)⟩)
  dsimp only [Pt.U, Pt.locs, Pt.cells, Pt.slots] at X11 l11 y11 z11 st11 hQ11
  subst l11 y11 z11
  obtain ⟨r_11, kr_11, rfl, N11q, K11, g_r_11, sq_r_11, p11_0, p11_1, p11_2, p11_3⟩ := hQ11
  have N11 := Fr.app N9 N11q
  have St_2_11 := Safe.keep K11 (sfS (Safe.exa hZ10.alike (((((((A1.keep K2).ext E4).keep K5).ext E6).keep K7).keep K9).ext E10) (by decide) (by decide)) sf0) CH10.1 St_2_10
  have Sr_7_11 := Safe.keep K11 (sfS (Safe.exa hZ10.alike (((((((A1.keep K2).ext E4).keep K5).ext E6).keep K7).keep K9).ext E10) (by decide) (by decide)) sf0) CH10.1 Sr_7_10
  have Sr_11_11 := Safe.keep K11 (sfS (Safe.exa hZ10.alike (((((((A1.keep K2).ext E4).keep K5).ext E6).keep K7).keep K9).ext E10) (by decide) (by decide)) sf0) CH10.1 (Safe.new (vm := _) sq_r_11)
  have CH11 := CHr.trans CH10 (CHr.keep K11 (sfS (Safe.exa hZ10.alike (((((((A1.keep K2).ext E4).keep K5).ext E6).keep K7).keep K9).ext E10) (by decide) (by decide)) sf0) CH10.1)
  have sz_r_11 : h0.size ≤ r_11 := Nat.le_trans Q10.1 sq_r_11
  have Q11 : Keep h0 T11.heap [] := Q10.trans K11 (allS (Or.inr sz_b1) all0)
  have nq8 : a1 ≠ r_7 := (Nat.ne_of_lt (Nat.lt_of_lt_of_le (((((F_id_a1.ext E1).keep K2 (ninS nq0 nin0)).ext E4).keep K5 (ninS nq0 (ninS nq1 nin0))).ext E6).lt sq_r_7))
  obtain ⟨T12, X12, e12, st12⟩ := getF X11 hx hZ10 hown10 (host := "") (Or.inl (own_t hw 96 rfl)) Via.refl rfl (((((((((F_gid_a1.ext E1).keep K2 (ninS nq0 nin0)).ext E4).keep K5 (ninS nq0 (ninS nq1 nin0))).ext E6).keep K7 (ninS nq0 nin0)).keep K9 (ninS nq0 (ninS nq8 nin0))).ext E10).keep K11 (ninS nq0 nin0)) (g := (mkF m 42 #[.val (.ref a1)] [(.ref a1), (.ref b1)])) rfl rfl (hb hby e10_2_42)
  have nq9 : a3 ≠ b1 := (Nat.ne_of_lt (Nat.lt_of_lt_of_le E_a3.lt (Nat.le_of_eq gg1.symm)))
  have nq10 : a3 ≠ t_2 := (Nat.ne_of_lt (Nat.lt_of_lt_of_le (E_a3.ext E1).lt sq_t_2))
  have nq11 : a3 ≠ r_7 := (Nat.ne_of_lt (Nat.lt_of_lt_of_le (((((E_a3.ext E1).keep K2).ext E4).keep K5).ext E6).lt sq_r_7))
  have nq12 : tb ≠ b1 := (Nat.ne_of_lt (Nat.lt_of_lt_of_le V_tb.lt (Nat.le_of_eq gg1.symm)))
  have nq13 : tb ≠ t_2 := (Nat.ne_of_lt (Nat.lt_of_lt_of_le (V_tb.ext E1).lt sq_t_2))
  have nq14 : tb ≠ r_7 := (Nat.ne_of_lt (Nat.lt_of_lt_of_le (((((V_tb.ext E1).keep K2 (ninS nq12 nin0)).ext E4).keep K5 (ninS nq12 (ninS nq13 nin0))).ext E6).lt sq_r_7))
  obtain ⟨cq13, kq13, q13a, q13b, q13c⟩ := isOf hZ10 e12 ((((((((A1.keep K2).ext E4).keep K5).ext E6).keep K7).keep K9).ext E10).keep K11)
  obtain ⟨_, _, ⟨T13, LL13, kk13, nn13⟩, -, X13, ⟨Lc13, hQ13, l13, y13, z13⟩, st13⟩ := X12.virtualBack hx (y := (⟨"java/lang/StringBuilder", "append", "(Ljava/lang/String;)Ljava/lang/StringBuilder;"⟩ : MethodName)) (z := (⟨"java/lang/StringBuilder", "append", "(Ljava/lang/String;)Ljava/lang/StringBuilder;"⟩ : MethodName)) hown10 (mvT hZ10 (own_t hw 130 rfl)) (mvT hZ10 (own_t hw 131 rfl)) (notFace_of_selects (args := #[]) (mvT hZ10 (own_t hw 133 rfl))) (mvT hZ10 (own_t hw 133 rfl)) (mvT hZ10 (own_t hw 132 rfl)) (by decide) (backOf (W := 0) (rmSA l Z a0 hw [] b1 a3 r_11 (42 : Int32) (44 : Int32) tb kb (2 : Int32) [(.int x3), (.int x4)] kr_11 (70 : Int32) [(.int 114), (.int 101), (.int 108), (.int 105), (.int 97), (.int 98), (.int 108), (.int 101), (.int 32), (.int 109), (.int 101), (.int 115), (.int 115), (.int 97), (.int 103), (.int 101), (.int 32), (.int x1), (.int x2), (.int 32), (.int 111), (.int 102), (.int 32), (.int 103), (.int 108), (.int 111), (.int 98), (.int 97), (.int 108), (.int 32), (.int 116), (.int 114), (.int 97), (.int 110), (.int 115), (.int 97), (.int 99), (.int 116), (.int 105), (.int 111), (.int 110), (.int 32), oz, oz, oz, oz, oz, oz, oz, oz, oz, oz, oz, oz, oz, oz, oz, oz, oz, oz, oz, oz, oz, oz, oz, oz, oz, oz, oz, oz] [(.int 114), (.int 101), (.int 108), (.int 105), (.int 97), (.int 98), (.int 108), (.int 101), (.int 32), (.int 109), (.int 101), (.int 115), (.int 115), (.int 97), (.int 103), (.int 101), (.int 32), (.int x1), (.int x2), (.int 32), (.int 111), (.int 102), (.int 32), (.int 103), (.int 108), (.int 111), (.int 98), (.int 97), (.int 108), (.int 32), (.int 116), (.int 114), (.int 97), (.int 110), (.int 115), (.int 97), (.int 99), (.int 116), (.int 105), (.int 111), (.int 110), (.int 32), (.int x3), (.int x4), oz, oz, oz, oz, oz, oz, oz, oz, oz, oz, oz, oz, oz, oz, oz, oz, oz, oz, oz, oz, oz, oz, oz, oz, oz, oz] zc T11.heap n0 (Nat.le_trans (Nat.le_trans (Nat.le_trans (Nat.le_trans (Nat.le_trans (Nat.le_trans (Nat.le_trans (Nat.le_trans (Nat.le_trans Z0 E1.1) K2.1) E4.1) K5.1) E6.1) K7.1) K9.1) E10.1) K11.1) ((((((((A1.keep K2).ext E4).keep K5).ext E6).keep K7).keep K9).ext E10).keep K11) p11_0 p11_1 p11_2 g_b1 p11_3 g_r_11 (((((((((E_a3.ext E1).keep K2).ext E4).keep K5).ext E6).keep K7).keep K9).ext E10).keep K11) (((((((((F_value_a3.ext E1).keep K2 (ninS nq9 nin0)).ext E4).keep K5 (ninS nq9 (ninS nq10 nin0))).ext E6).keep K7 (ninS nq9 nin0)).keep K9 (ninS nq9 (ninS nq11 nin0))).ext E10).keep K11 (ninS nq9 nin0)) (((((((((F_coder_a3.ext E1).keep K2 (ninS nq9 nin0)).ext E4).keep K5 (ninS nq9 (ninS nq10 nin0))).ext E6).keep K7 (ninS nq9 nin0)).keep K9 (ninS nq9 (ninS nq11 nin0))).ext E10).keep K11 (ninS nq9 nin0)) (((((((((V_tb.ext E1).keep K2 (ninS nq12 nin0)).ext E4).keep K5 (ninS nq12 (ninS nq13 nin0))).ext E6).keep K7 (ninS nq12 nin0)).keep K9 (ninS nq12 (ninS nq14 nin0))).ext E10).keep K11 (ninS nq12 nin0)) (own_sta_keep1 ((own_sta_keep (own_sta_keep1 ((own_sta_keep ((own_sta_keep1 (S_COMPACT_STRINGS_.ext E1) K2 A1).ext E4) K5 (fun _ _ q1 q2 => (ninS (own_nst_exa ((A1.keep K2).ext E4) q1 q2) (ninS (own_nst_arv (p2_3.ext E4) q1 q2) nin0)))).ext E6) K7 ((((A1.keep K2).ext E4).keep K5).ext E6)) K9 (fun _ _ q1 q2 => (ninS (own_nst_exa (((((A1.keep K2).ext E4).keep K5).ext E6).keep K7) q1 q2) (ninS (own_nst_arv p7_3 q1 q2) nin0)))).ext E10) K11 (((((((A1.keep K2).ext E4).keep K5).ext E6).keep K7).keep K9).ext E10)) (hzc) (by decide) (by decide) (by decide) (by decide) (by decide) (Nat.le_of_ble_eq_true rfl) (rfl)) hZ10 (own_t hw 134 rfl) (own_t hw 113 rfl) (by decide) (by decide)) q13a q13c (g := (mkF m 45 #[.val (.ref a1)] [(.ref a3), (.ref b1)])) rfl (by rw [hml]; rfl) (Steps.refl _) (argsL := [(.ref a3)]) (rest := []) (lenOf pd_25 rfl) rfl (by show 2 * 0 + _ ≤ _; exact Nat.le_of_eq rfl) (hb hby e10_2_45) (fun _ _ => ⟨rfl, e12, (by decide : 10 + 0 ≤ _), (by decide : 296 + 0 ≤ _)⟩)
  dsimp only [Pt.U, Pt.locs, Pt.cells, Pt.slots] at X13 l13 y13 z13 st13 hQ13
  subst l13 y13 z13
  obtain ⟨rfl, N13q, K13, p13_0, p13_1, p13_2, p13_3⟩ := hQ13
  have N13 := Fr.app N11 N13q
  have St_2_13 := Safe.keep K13 (sfS (Safe.exa hZ10.alike ((((((((A1.keep K2).ext E4).keep K5).ext E6).keep K7).keep K9).ext E10).keep K11) (by decide) (by decide)) (sfS Sr_11_11 sf0)) CH11.1 St_2_11
  have Sr_7_13 := Safe.keep K13 (sfS (Safe.exa hZ10.alike ((((((((A1.keep K2).ext E4).keep K5).ext E6).keep K7).keep K9).ext E10).keep K11) (by decide) (by decide)) (sfS Sr_11_11 sf0)) CH11.1 Sr_7_11
  have Sr_11_13 := Safe.keep K13 (sfS (Safe.exa hZ10.alike ((((((((A1.keep K2).ext E4).keep K5).ext E6).keep K7).keep K9).ext E10).keep K11) (by decide) (by decide)) (sfS Sr_11_11 sf0)) CH11.1 Sr_11_11
  have CH13 := CHr.trans CH11 (CHr.keep K13 (sfS (Safe.exa hZ10.alike ((((((((A1.keep K2).ext E4).keep K5).ext E6).keep K7).keep K9).ext E10).keep K11) (by decide) (by decide)) (sfS Sr_11_11 sf0)) CH11.1)
  have Q13 : Keep h0 T13.heap [] := Q11.trans K13 (allS (Or.inr sz_b1) (allS (Or.inr sz_r_11) all0))
  obtain ⟨cq14, kq14, q14a, q14b, q14c⟩ := isOf hZ10 rfl (((((((((A1.keep K2).ext E4).keep K5).ext E6).keep K7).keep K9).ext E10).keep K11).keep K13)
  obtain ⟨_, _, ⟨T14, LL14, kk14, nn14⟩, -, X14, ⟨Lc14, hQ14, l14, y14, z14⟩, st14⟩ := X13.virtualBack hx (y := (⟨"java/lang/StringBuilder", "toString", "()Ljava/lang/String;"⟩ : MethodName)) (z := (⟨"java/lang/StringBuilder", "toString", "()Ljava/lang/String;"⟩ : MethodName)) hown10 (mvT hZ10 (own_t hw 197 rfl)) (mvT hZ10 (own_t hw 198 rfl)) (notFace_of_selects (args := #[]) (mvT hZ10 (own_t hw 200 rfl))) (mvT hZ10 (own_t hw 200 rfl)) (mvT hZ10 (own_t hw 199 rfl)) (by decide) (backOf (W := 0) (rmTS_44 l Z a0 hw [] b1 r_11 kr_11 [(.int 114), (.int 101), (.int 108), (.int 105), (.int 97), (.int 98), (.int 108), (.int 101), (.int 32), (.int 109), (.int 101), (.int 115), (.int 115), (.int 97), (.int 103), (.int 101), (.int 32), (.int x1), (.int x2), (.int 32), (.int 111), (.int 102), (.int 32), (.int 103), (.int 108), (.int 111), (.int 98), (.int 97), (.int 108), (.int 32), (.int 116), (.int 114), (.int 97), (.int 110), (.int 115), (.int 97), (.int 99), (.int 116), (.int 105), (.int 111), (.int 110), (.int 32), (.int x3), (.int x4), oz, oz, oz, oz, oz, oz, oz, oz, oz, oz, oz, oz, oz, oz, oz, oz, oz, oz, oz, oz, oz, oz, oz, oz, oz, oz] [(.int 114), (.int 101), (.int 108), (.int 105), (.int 97), (.int 98), (.int 108), (.int 101), (.int 32), (.int 109), (.int 101), (.int 115), (.int 115), (.int 97), (.int 103), (.int 101), (.int 32), (.int x1), (.int x2), (.int 32), (.int 111), (.int 102), (.int 32), (.int 103), (.int 108), (.int 111), (.int 98), (.int 97), (.int 108), (.int 32), (.int 116), (.int 114), (.int 97), (.int 110), (.int 115), (.int 97), (.int 99), (.int 116), (.int 105), (.int 111), (.int 110), (.int 32), (.int x3), (.int x4)] zc T13.heap n0 (Nat.le_trans (Nat.le_trans (Nat.le_trans (Nat.le_trans (Nat.le_trans (Nat.le_trans (Nat.le_trans (Nat.le_trans (Nat.le_trans (Nat.le_trans Z0 E1.1) K2.1) E4.1) K5.1) E6.1) K7.1) K9.1) E10.1) K11.1) K13.1) (((((((((A1.keep K2).ext E4).keep K5).ext E6).keep K7).keep K9).ext E10).keep K11).keep K13) p13_0 p13_1 p13_2 p13_3 (rfl) (own_sta_keep (own_sta_keep1 ((own_sta_keep (own_sta_keep1 ((own_sta_keep ((own_sta_keep1 (S_COMPACT_STRINGS_.ext E1) K2 A1).ext E4) K5 (fun _ _ q1 q2 => (ninS (own_nst_exa ((A1.keep K2).ext E4) q1 q2) (ninS (own_nst_arv (p2_3.ext E4) q1 q2) nin0)))).ext E6) K7 ((((A1.keep K2).ext E4).keep K5).ext E6)) K9 (fun _ _ q1 q2 => (ninS (own_nst_exa (((((A1.keep K2).ext E4).keep K5).ext E6).keep K7) q1 q2) (ninS (own_nst_arv p7_3 q1 q2) nin0)))).ext E10) K11 (((((((A1.keep K2).ext E4).keep K5).ext E6).keep K7).keep K9).ext E10)) K13 (fun _ _ q1 q2 => (ninS (own_nst_exa ((((((((A1.keep K2).ext E4).keep K5).ext E6).keep K7).keep K9).ext E10).keep K11) q1 q2) (ninS (own_nst_arv p11_3 q1 q2) nin0)))) (hzc)) hZ10 (own_t hw 201 rfl) (own_t hw 113 rfl) (by decide) (by decide)) q14a q14c (g := (mkF m 48 #[.val (.ref a1)] [(.ref b1)])) rfl (by rw [hml]; rfl) (Steps.refl _) (argsL := []) (rest := []) (lenOf pd_26 rfl) rfl (by show 2 * 0 + _ ≤ _; exact Nat.le_of_eq rfl) (hb hby e10_2_48) (fun _ _ => ⟨rfl, rfl, (by decide : 10 + 2 ≤ _), (by decide : 296 + 48 ≤ _)⟩)
  dsimp only [Pt.U, Pt.locs, Pt.cells, Pt.slots] at X14 l14 y14 z14 st14 hQ14
  subst l14 y14 z14
  obtain ⟨b_14, t_14, kt_14, rfl, N14q, K14, g_b_14, sq_b_14, g_t_14, sq_t_14, p14_0, p14_1, p14_2, p14_3⟩ := hQ14
  have N14 := Fr.app N13 N14q
  have St_2_14 := Safe.keep K14 sf0 CH13.1 St_2_13
  have Sr_7_14 := Safe.keep K14 sf0 CH13.1 Sr_7_13
  have Sr_11_14 := Safe.keep K14 sf0 CH13.1 Sr_11_13
  have St_14_14 := Safe.keep K14 sf0 CH13.1 (Safe.new (vm := _) sq_t_14)
  have CH14 := CHr.trans CH13 (CHr.keep K14 sf0 CH13.1)
  have sz_b_14 : h0.size ≤ b_14 := Nat.le_trans Q13.1 sq_b_14
  have sz_t_14 : h0.size ≤ t_14 := Nat.le_trans Q13.1 sq_t_14
  have Q14 : Keep h0 T14.heap [] := Q13.trans K14 all0
  obtain ⟨fs, hr, hrun, hended, hR⟩ := X14.leaveW hS10 (Nat.le_trans (Nat.le_trans (Nat.le_trans hk10 K11.1) K13.1) K14.1) (v := some (.ref b_14)) (fun h => by rw [Bd.returns] at h; cases h)
  refine ⟨_, _, pre0 _ ?_, hrun, hended, _, _, rfl, ?_, ?_, hR.1, hR.2.1, hR.2.2.1, hR.2.2.2.mono (by decide) (by decide)⟩
  · show Steps p.tables e below (s₁.setTop (mkF m 0 #[.val (.ref a1)] [])) _
    refine st1 _ ?_
    show Steps p.tables e below (T1.setTop (mkF m 3 #[.val (.ref a1)] [(.ref b1)])) _
    refine XS.dup X1.here hx rfl (hb hby e10_2_3) rfl rfl ?_
    refine st2.trans ?_
    show Steps p.tables e below (T2.setTop (mkF m 7 #[.val (.ref a1)] [(.ref b1)])) _
    refine XS.aloadN X2.here hx rfl (hb hby e10_2_7) rfl rfl ?_
    refine st3 _ ?_
    show Steps p.tables e below (T3.setTop (mkF m 11 #[.val (.ref a1)] [(.int 1), (.ref b1)])) _
    refine XS.ifNo X3.here hx rfl (hb hby e10_2_11) rfl ((if0 _ _).trans (feq (by decide : ¬ ((1 : Int32) = (0 : Int32)))).1) ?_
    show Steps p.tables e below (T3.setTop (mkF m 14 #[.val (.ref a1)] [(.ref b1)])) _
    refine st4 _ ?_
    show Steps p.tables e below (T4.setTop (mkF m 16 #[.val (.ref a1)] [(.ref b4), (.ref b1)])) _
    refine XS.goto X4.here hx rfl (pc0 := 16) (pc' := 21) rfl (hb hby e10_2_16) (by decide) (by decide) ?_
    show Steps p.tables e below (T4.setTop (mkF m 21 #[.val (.ref a1)] [(.ref b4), (.ref b1)])) _
    refine st5.trans ?_
    show Steps p.tables e below (T5.setTop (mkF m 24 #[.val (.ref a1)] [(.ref b1)])) _
    refine st6 _ ?_
    show Steps p.tables e below (T6.setTop (mkF m 26 #[.val (.ref a1)] [(.ref b6), (.ref b1)])) _
    refine st7.trans ?_
    show Steps p.tables e below (T7.setTop (mkF m 29 #[.val (.ref a1)] [(.ref b1)])) _
    refine XS.aloadN X7.here hx rfl (hb hby e10_2_29) rfl rfl ?_
    refine st8 _ ?_
    show Steps p.tables e below (T8.setTop (mkF m 33 #[.val (.ref a1)] [(.ref a2), (.ref b1)])) _
    refine st9.trans ?_
    show Steps p.tables e below (T9.setTop (mkF m 36 #[.val (.ref a1)] [(.ref b1)])) _
    refine st10 _ ?_
    show Steps p.tables e below (T10.setTop (mkF m 38 #[.val (.ref a1)] [(.ref b10), (.ref b1)])) _
    refine st11.trans ?_
    show Steps p.tables e below (T11.setTop (mkF m 41 #[.val (.ref a1)] [(.ref b1)])) _
    refine XS.aloadN X11.here hx rfl (hb hby e10_2_41) rfl rfl ?_
    refine st12 _ ?_
    show Steps p.tables e below (T12.setTop (mkF m 45 #[.val (.ref a1)] [(.ref a3), (.ref b1)])) _
    refine st13.trans ?_
    show Steps p.tables e below (T13.setTop (mkF m 48 #[.val (.ref a1)] [(.ref b1)])) _
    refine st14.trans ?_
    show Steps p.tables e below (T14.setTop (mkF m 51 #[.val (.ref a1)] [(.ref b_14)])) _
    exact X14.areturnOut hx rfl Bd.returns rfl (hb hby e10_2_51) hr
  · show Q_rmD1 Z a1 a2 ta ka a3 tb kb x1 x2 x3 x4 zc h0 n0 _ T14.heap _
    exact ⟨b_14, t_14, kt_14, rfl, N14, Q14, g_b_14, sz_b_14, g_t_14, sz_t_14, p14_0, p14_1, p14_2, p14_3⟩
  · show CHr Z own_EL s.vm s.heap T14.vm T14.heap
    rw [hh]
    exact CHr.trans CH14 (CHv.at X14 hZ10 (own_EW Z a0 hw) CH14.1)
theorem e10_2_19 : decode prog_10_method_2_code 19 = .ok (.ldc 54, 2) := by decide +kernel
def Q_rmD0 (Z : State) (a1 : Addr) (a2 : Addr) (ta : Addr) (ka : ClassId) (a3 : Addr) (tb : Addr) (kb : ClassId) (x1 : Int32) (x2 : Int32) (x3 : Int32) (x4 : Int32) (zc : Int32) (h0 : Heap) (n0 : Nat) (v : Option Value) (h : Heap) (L : List Loc) : Prop := ∃ (b : Addr) (t : Addr) (kt : ClassId), v = some (.ref b) ∧ Fr n0 L ∧ Keep h0 h [] ∧ n0 ≤ b ∧ h0.size ≤ b ∧ n0 ≤ t ∧ h0.size ≤ t ∧ Exa Z h b "java/lang/String" ∧ Fld Z h b "java/lang/String" "value" "[B" (.ref t) ∧ Fld Z h b "java/lang/String" "coder" "B" (.int 0) ∧ Arv Z h t kt .byte (47 : Int32) [(.int 98), (.int 101), (.int 115), (.int 116), (.int 45), (.int 101), (.int 102), (.int 102), (.int 111), (.int 114), (.int 116), (.int 32), (.int 109), (.int 101), (.int 115), (.int 115), (.int 97), (.int 103), (.int 101), (.int 32), (.int x1), (.int x2), (.int 32), (.int 111), (.int 102), (.int 32), (.int 103), (.int 108), (.int 111), (.int 98), (.int 97), (.int 108), (.int 32), (.int 116), (.int 114), (.int 97), (.int 110), (.int 115), (.int 97), (.int 99), (.int 116), (.int 105), (.int 111), (.int 110), (.int 32), (.int x3), (.int x4)] (.int 0)
set_option maxRecDepth 65536 in
set_option maxHeartbeats 40000000 in
theorem rmD0 (l : Launch) (Z : State) (a0 : Array Value) (hw : ∀ d ∈ tables_1, d.before a0 Z = true) (ws : List Jvm.Cond) (a1 : Addr) (a2 : Addr) (ta : Addr) (ka : ClassId) (a3 : Addr) (tb : Addr) (kb : ClassId) (x1 : Int32) (x2 : Int32) (x3 : Int32) (x4 : Int32) (zc : Int32) (h0 : Heap) (n0 : Nat) (Z0 : n0 ≤ h0.size) (F_id_a1 : Fld Z h0 a1 "com/example/gentle_commit/gentlecommit/initiator/Message" "id" "Ljava/lang/String;" (.ref a2)) (F_gid_a1 : Fld Z h0 a1 "com/example/gentle_commit/gentlecommit/initiator/Message" "gid" "Ljava/lang/String;" (.ref a3)) (F_reliable_a1 : Fld Z h0 a1 "com/example/gentle_commit/gentlecommit/initiator/Message" "reliable" "Z" (.int 0)) (E_a2 : Exa Z h0 a2 "java/lang/String") (F_value_a2 : Fld Z h0 a2 "java/lang/String" "value" "[B" (.ref ta)) (F_coder_a2 : Fld Z h0 a2 "java/lang/String" "coder" "B" (.int 0)) (V_ta : Arv Z h0 ta ka .byte (2 : Int32) [(.int x1), (.int x2)] (.int 0)) (E_a3 : Exa Z h0 a3 "java/lang/String") (F_value_a3 : Fld Z h0 a3 "java/lang/String" "value" "[B" (.ref tb)) (F_coder_a3 : Fld Z h0 a3 "java/lang/String" "coder" "B" (.int 0)) (V_tb : Arv Z h0 tb kb .byte (2 : Int32) [(.int x3), (.int x4)] (.int 0)) (S_COMPACT_STRINGS_ : Sta Z h0 "java/lang/String" "COMPACT_STRINGS" "Z" (.int zc)) (hzc : ¬ zc = 0) :
    MetFree l (⟨"com/example/gentle_commit/gentlecommit/initiator/Message", "describe", "()Ljava/lang/String;"⟩ : MethodName) (head1 (Jvm.Cond.code (⟨"com/example/gentle_commit/gentlecommit/initiator/Message", "describe", "()Ljava/lang/String;"⟩ : MethodName) prog_10_method_2_code 1 (some (.object "java/lang/String")) :: ws) ({ frames := 6, cells := 12, slots := 359, locals := 91 } : Room)) (fun a U => a = #[(.ref a1)] ∧ Z.Warmed39 U.vm ∧ U.heap = h0 ∧ CHv Z own_EL U.vm h0) (fun _ _ _ _ _ => True) (fun _ U o U' => ∃ v L, o = .returned v ∧ Q_rmD0 Z a1 a2 ta ka a3 tb kb x1 x2 x3 x4 zc h0 n0 v U'.heap L ∧ CHr Z own_EL U.vm U.heap U'.vm U'.heap ∧ ReturnedEndW U o U' L ({ frames := 6, cells := 12, slots := 359, locals := 91 } : Room).cells ({ frames := 6, cells := 12, slots := 359, locals := 91 } : Room).slots) := by
  refine MetFree.of_bodySF (plainFor_of_name pn_7) hisR ?_
  intro p e s m args below meth c s₁ Bd hml0 hP hK
  obtain ⟨rfl, hZ, hh, hCH⟩ := hP
  have hx := Bd.exec
  have hby := Bd.bytes
  have hml : c.maxLocals = 1 := hml0
  have hown : s.vm.findClass "com/example/gentle_commit/gentlecommit/initiator/Message" = some m.cls := findClass_of_methodNamed Bd.named
  have hnm := (name_of_methodNamed Bd.named Bd.method).1
  have X0 : Stand p l e ({ frames := 6, cells := 12, slots := 359, locals := 91 } : Room) s m #[(.ref a1)] below meth c s₁ [] 0 0 := Stand.of_body Bd
  have e0 : s₁.heap = h0 := by rw [← hh, Bd.state]; rfl
  have N0 := Fr.nil n0
  have pre0 : ∀ t, Steps p.tables e below (s₁.setTop (mkF m 0 #[.val (.ref a1)] [])) t → Steps p.tables e below (s₁.setTop (entryFrame m #[(.ref a1)] 1)) t := fun t k => castTop (ef_0 m a1) k
  have X0w : Stand p l e ({ frames := 6, cells := 12, slots := 359, locals := 91 } : Room) (s.setVm s.vm) m #[(.ref a1)] below meth c s₁ [] 0 0 := X0
  have hZ0 : Z.Warmed39 (s.setVm s.vm).vm := hZ
  have hown0 : (s.setVm s.vm).vm.findClass "com/example/gentle_commit/gentlecommit/initiator/Message" = some m.cls := hown
  have hS0 : s.Since s.vm 0 := (State.WarmedH.refl s).since 0
  have hk0 : 0 ≤ h0.size := Nat.zero_le _
  have CH0 : CHr Z own_EL s.vm h0 s.vm h0 := CHr.refl hCH
  obtain ⟨T1, h1, X1, e1, E1, A1, D1, -, st1⟩ := newO X0w hx hZ0 hown0 (own_t hw 111 rfl) (own_t hw 112 rfl) (own_t hw 113 rfl) e0 (g := (mkF m 0 #[.val (.ref a1)] [])) rfl (hb hby e10_2_0) (by decide) (by decide)
  obtain ⟨b1, gg1⟩ : ∃ z, z = h0.size := ⟨_, rfl⟩
  rw [← gg1] at A1 D1 st1
  have CH1 := CHr.trans CH0 (CHr.ext E1 CH0.1)
  have g_b1 : n0 ≤ b1 := Nat.le_trans Z0 (Nat.le_of_eq gg1.symm)
  have sz_b1 : h0.size ≤ b1 := Nat.le_trans (Keep.refl h0 []).1 (Nat.le_of_eq gg1.symm)
  have Q1 : Keep h0 h1 [] := (Keep.refl h0 []).ext E1
  have F_value_b1 : Fld Z h1 b1 "java/lang/AbstractStringBuilder" "value" "[B" .null := D1 (Or.inl (own_t hw 126 rfl)) (ty := (.array .byte)) (by decide)
  have F_coder_b1 : Fld Z h1 b1 "java/lang/AbstractStringBuilder" "coder" "B" (.int 0) := D1 (Or.inl (own_t hw 128 rfl)) (ty := .byte) (by decide)
  have F_count_b1 : Fld Z h1 b1 "java/lang/AbstractStringBuilder" "count" "I" (.int 0) := D1 (Or.inl (own_t hw 146 rfl)) (ty := .int) (by decide)
  obtain ⟨_, _, ⟨T2, LL2, kk2, nn2⟩, -, X2, ⟨Lc2, hQ2, l2, y2, z2⟩, st2⟩ := X1.specialBack hx (y := (⟨"java/lang/StringBuilder", "<init>", "()V"⟩ : MethodName)) rfl hown0 (mvT hZ0 (own_t hw 114 rfl)) (mvT hZ0 (own_t hw 115 rfl)) (mvT hZ0 (own_t hw 116 rfl)) (by decide) (backOf (W := 1) (rmSI l Z a0 hw [] b1 zc h1 n0 (Nat.le_trans Z0 E1.1) A1 F_value_b1 F_coder_b1 F_count_b1 g_b1 (S_COMPACT_STRINGS_.ext E1) (hzc)) hZ0 (own_t hw 116 rfl) (own_t hw 113 rfl) (by decide) (by decide)) (g := (mkF m 4 #[.val (.ref a1)] [(.ref b1), (.ref b1)])) rfl (by rw [hml]; rfl) (Steps.refl _) (a := b1) (argsL := []) (rest := [(.ref b1)]) (lenOf pd_23 rfl) rfl (by show 2 * 0 + _ ≤ _; exact Nat.le_of_eq rfl) (hb hby e10_2_4) (fun _ _ => ⟨rfl, e1, (by decide : 1 + 1 ≤ _), (by decide : 4 + 16 ≤ _)⟩)
  dsimp only [Pt.U, Pt.locs, Pt.cells, Pt.slots] at X2 l2 y2 z2 st2 hQ2
  subst l2 y2 z2
  obtain ⟨t_2, kt_2, rfl, N2q, K2, g_t_2, sq_t_2, p2_0, p2_1, p2_2, p2_3⟩ := hQ2
  have N2 := Fr.app N0 N2q
  have St_2_2 := Safe.keep K2 (sfS (Safe.exa hZ0.alike A1 (by decide) (by decide)) sf0) CH1.1 (Safe.new (vm := _) sq_t_2)
  have CH2 := CHr.trans CH1 (CHr.keep K2 (sfS (Safe.exa hZ0.alike A1 (by decide) (by decide)) sf0) CH1.1)
  have sz_t_2 : h0.size ≤ t_2 := Nat.le_trans Q1.1 sq_t_2
  have Q2 : Keep h0 T2.heap [] := Q1.trans K2 (allS (Or.inr sz_b1) all0)
  have nq0 : a1 ≠ b1 := (Nat.ne_of_lt (Nat.lt_of_lt_of_le F_id_a1.lt (Nat.le_of_eq gg1.symm)))
  obtain ⟨T3, X3, e3, st3⟩ := getF X2 hx hZ0 hown0 (host := "") (Or.inl (own_t hw 98 rfl)) Via.refl rfl ((F_reliable_a1.ext E1).keep K2 (ninS nq0 nin0)) (g := (mkF m 8 #[.val (.ref a1)] [(.ref a1), (.ref b1)])) rfl rfl (hb hby e10_2_8)
  obtain ⟨b4, T4, h4, k4, t4, c4, X4, e4, E4, hS4, hk4, hZ4, hown4, EA4, FC4, FV4, AV4, -, -, C4, -, SN4, st4⟩ := ldcCH X3 hx hZ0 hown0 (own_t hw 129 rfl) (own_wS Z a0 hw) e3 hS0 (Nat.le_trans (Nat.le_trans hk0 E1.1) K2.1) (own_EW Z a0 hw) (List.mem_of_getElem? (i := 1) rfl) CH2.1 (vs := [(.int 98), (.int 101), (.int 115), (.int 116), (.int 45), (.int 101), (.int 102), (.int 102), (.int 111), (.int 114), (.int 116)]) (z := (11 : Int32)) (by decide) (by decide) rfl (g := (mkF m 19 #[.val (.ref a1)] [(.ref b1)])) rfl (hb hby e10_2_19) (n := 44) (by decide) (by decide) (by decide) (by decide)
  have St_2_4 := CHr.safe C4 p2_3.lt St_2_2
  have CH4 := CHr.trans CH2 (C4)
  have Q4 : Keep h0 h4 [] := Q2.ext E4
  obtain ⟨cq5, kq5, q5a, q5b, q5c⟩ := isOf hZ4 e4 ((A1.keep K2).ext E4)
  obtain ⟨_, _, ⟨T5, LL5, kk5, nn5⟩, -, X5, ⟨Lc5, hQ5, l5, y5, z5⟩, st5⟩ := X4.virtualBack hx (y := (⟨"java/lang/StringBuilder", "append", "(Ljava/lang/String;)Ljava/lang/StringBuilder;"⟩ : MethodName)) (z := (⟨"java/lang/StringBuilder", "append", "(Ljava/lang/String;)Ljava/lang/StringBuilder;"⟩ : MethodName)) hown4 (mvT hZ4 (own_t hw 130 rfl)) (mvT hZ4 (own_t hw 131 rfl)) (notFace_of_selects (args := #[]) (mvT hZ4 (own_t hw 133 rfl))) (mvT hZ4 (own_t hw 133 rfl)) (mvT hZ4 (own_t hw 132 rfl)) (by decide) (backOf (W := 0) (rmSA l Z a0 hw [] b1 b4 t_2 (0 : Int32) (11 : Int32) t4 c4 (11 : Int32) [(.int 98), (.int 101), (.int 115), (.int 116), (.int 45), (.int 101), (.int 102), (.int 102), (.int 111), (.int 114), (.int 116)] kt_2 (16 : Int32) [oz, oz, oz, oz, oz, oz, oz, oz, oz, oz, oz, oz, oz, oz, oz, oz] [(.int 98), (.int 101), (.int 115), (.int 116), (.int 45), (.int 101), (.int 102), (.int 102), (.int 111), (.int 114), (.int 116), oz, oz, oz, oz, oz] zc h4 n0 (Nat.le_trans (Nat.le_trans (Nat.le_trans Z0 E1.1) K2.1) E4.1) ((A1.keep K2).ext E4) (p2_0.ext E4) (p2_1.ext E4) (p2_2.ext E4) g_b1 (p2_3.ext E4) g_t_2 EA4 FV4 FC4 AV4 ((own_sta_keep1 (S_COMPACT_STRINGS_.ext E1) K2 A1).ext E4) (hzc) (by decide) (by decide) (by decide) (by decide) (by decide) (Nat.le_of_ble_eq_true rfl) (rfl)) hZ4 (own_t hw 134 rfl) (own_t hw 113 rfl) (by decide) (by decide)) q5a q5c (g := (mkF m 21 #[.val (.ref a1)] [(.ref b4), (.ref b1)])) rfl (by rw [hml]; rfl) (Steps.refl _) (argsL := [(.ref b4)]) (rest := []) (lenOf pd_25 rfl) rfl (by show 2 * 0 + _ ≤ _; exact Nat.le_of_eq rfl) (hb hby e10_2_21) (fun _ _ => ⟨rfl, e4, (by decide : 4 + 0 ≤ _), (by decide : 68 + 0 ≤ _)⟩)
  dsimp only [Pt.U, Pt.locs, Pt.cells, Pt.slots] at X5 l5 y5 z5 st5 hQ5
  subst l5 y5 z5
  obtain ⟨rfl, N5q, K5, p5_0, p5_1, p5_2, p5_3⟩ := hQ5
  have N5 := Fr.app N2 N5q
  have St_2_5 := Safe.keep K5 (sfS (Safe.exa hZ4.alike ((A1.keep K2).ext E4) (by decide) (by decide)) (sfS St_2_4 sf0)) CH4.1 St_2_4
  have CH5 := CHr.trans CH4 (CHr.keep K5 (sfS (Safe.exa hZ4.alike ((A1.keep K2).ext E4) (by decide) (by decide)) (sfS St_2_4 sf0)) CH4.1)
  have Q5 : Keep h0 T5.heap [] := Q4.trans K5 (allS (Or.inr sz_b1) (allS (Or.inr sz_t_2) all0))
  obtain ⟨b6, T6, h6, k6, t6, c6, X6, e6, E6, hS6, hk6, hZ6, hown6, EA6, FC6, FV6, AV6, -, -, C6, -, SN6, st6⟩ := ldcCH X5 hx hZ4 hown4 (own_t hw 172 rfl) (own_wS Z a0 hw) rfl hS4 (Nat.le_trans hk4 K5.1) (own_EW Z a0 hw) (List.mem_of_getElem? (i := 2) rfl) CH5.1 (vs := [(.int 32), (.int 109), (.int 101), (.int 115), (.int 115), (.int 97), (.int 103), (.int 101), (.int 32)]) (z := (9 : Int32)) (by decide) (by decide) rfl (g := (mkF m 24 #[.val (.ref a1)] [(.ref b1)])) rfl (hb hby e10_2_24) (n := 36) (by decide) (by decide) (by decide) (by decide)
  have St_2_6 := CHr.safe C6 p5_3.lt St_2_5
  have CH6 := CHr.trans CH5 (C6)
  have Q6 : Keep h0 h6 [] := Q5.ext E6
  obtain ⟨cq7, kq7, q7a, q7b, q7c⟩ := isOf hZ6 e6 ((((A1.keep K2).ext E4).keep K5).ext E6)
  obtain ⟨_, _, ⟨T7, LL7, kk7, nn7⟩, -, X7, ⟨Lc7, hQ7, l7, y7, z7⟩, st7⟩ := X6.virtualBack hx (y := (⟨"java/lang/StringBuilder", "append", "(Ljava/lang/String;)Ljava/lang/StringBuilder;"⟩ : MethodName)) (z := (⟨"java/lang/StringBuilder", "append", "(Ljava/lang/String;)Ljava/lang/StringBuilder;"⟩ : MethodName)) hown6 (mvT hZ6 (own_t hw 130 rfl)) (mvT hZ6 (own_t hw 131 rfl)) (notFace_of_selects (args := #[]) (mvT hZ6 (own_t hw 133 rfl))) (mvT hZ6 (own_t hw 133 rfl)) (mvT hZ6 (own_t hw 132 rfl)) (by decide) (backOf (W := 0) (rmSA_16 l Z a0 hw [] b1 b6 (11 : Int32) (9 : Int32) (20 : Int32) t_2 kt_2 [(.int 98), (.int 101), (.int 115), (.int 116), (.int 45), (.int 101), (.int 102), (.int 102), (.int 111), (.int 114), (.int 116), oz, oz, oz, oz, oz] t6 c6 [(.int 32), (.int 109), (.int 101), (.int 115), (.int 115), (.int 97), (.int 103), (.int 101), (.int 32)] [(.int 98), (.int 101), (.int 115), (.int 116), (.int 45), (.int 101), (.int 102), (.int 102), (.int 111), (.int 114), (.int 116), oz, oz, oz, oz, oz, oz, oz, oz, oz, oz, oz, oz, oz, oz, oz, oz, oz, oz, oz, oz, oz, oz, oz] [(.int 98), (.int 101), (.int 115), (.int 116), (.int 45), (.int 101), (.int 102), (.int 102), (.int 111), (.int 114), (.int 116), (.int 32), (.int 109), (.int 101), (.int 115), (.int 115), (.int 97), (.int 103), (.int 101), (.int 32), oz, oz, oz, oz, oz, oz, oz, oz, oz, oz, oz, oz, oz, oz] zc h6 n0 (Nat.le_trans (Nat.le_trans (Nat.le_trans (Nat.le_trans (Nat.le_trans Z0 E1.1) K2.1) E4.1) K5.1) E6.1) ((((A1.keep K2).ext E4).keep K5).ext E6) (p5_0.ext E6) (p5_1.ext E6) (p5_2.ext E6) g_b1 (p5_3.ext E6) EA6 FV6 FC6 AV6 ((own_sta_keep ((own_sta_keep1 (S_COMPACT_STRINGS_.ext E1) K2 A1).ext E4) K5 (fun _ _ q1 q2 => (ninS (own_nst_exa ((A1.keep K2).ext E4) q1 q2) (ninS (own_nst_arv (p2_3.ext E4) q1 q2) nin0)))).ext E6) (hzc) (rfl) (by decide) (by decide) (by decide) (by decide) (by decide) (by decide) (Nat.le_of_ble_eq_true rfl) (rfl)) hZ6 (own_t hw 134 rfl) (own_t hw 113 rfl) (by decide) (by decide)) q7a q7c (g := (mkF m 26 #[.val (.ref a1)] [(.ref b6), (.ref b1)])) rfl (by rw [hml]; rfl) (Steps.refl _) (argsL := [(.ref b6)]) (rest := []) (lenOf pd_25 rfl) rfl (by show 2 * 0 + _ ≤ _; exact Nat.le_of_eq rfl) (hb hby e10_2_26) (fun _ _ => ⟨rfl, e6, (by decide : 6 + 1 ≤ _), (by decide : 108 + 34 ≤ _)⟩)
  dsimp only [Pt.U, Pt.locs, Pt.cells, Pt.slots] at X7 l7 y7 z7 st7 hQ7
  subst l7 y7 z7
  obtain ⟨r_7, kr_7, rfl, N7q, K7, g_r_7, sq_r_7, p7_0, p7_1, p7_2, p7_3⟩ := hQ7
  have N7 := Fr.app N5 N7q
  have St_2_7 := Safe.keep K7 (sfS (Safe.exa hZ6.alike ((((A1.keep K2).ext E4).keep K5).ext E6) (by decide) (by decide)) sf0) CH6.1 St_2_6
  have Sr_7_7 := Safe.keep K7 (sfS (Safe.exa hZ6.alike ((((A1.keep K2).ext E4).keep K5).ext E6) (by decide) (by decide)) sf0) CH6.1 (Safe.new (vm := _) sq_r_7)
  have CH7 := CHr.trans CH6 (CHr.keep K7 (sfS (Safe.exa hZ6.alike ((((A1.keep K2).ext E4).keep K5).ext E6) (by decide) (by decide)) sf0) CH6.1)
  have sz_r_7 : h0.size ≤ r_7 := Nat.le_trans Q6.1 sq_r_7
  have Q7 : Keep h0 T7.heap [] := Q6.trans K7 (allS (Or.inr sz_b1) all0)
  have nq1 : a1 ≠ t_2 := (Nat.ne_of_lt (Nat.lt_of_lt_of_le (F_id_a1.ext E1).lt sq_t_2))
  obtain ⟨T8, X8, e8, st8⟩ := getF X7 hx hZ6 hown6 (host := "") (Or.inl (own_t hw 94 rfl)) Via.refl rfl ((((((F_id_a1.ext E1).keep K2 (ninS nq0 nin0)).ext E4).keep K5 (ninS nq0 (ninS nq1 nin0))).ext E6).keep K7 (ninS nq0 nin0)) (g := (mkF m 30 #[.val (.ref a1)] [(.ref a1), (.ref b1)])) rfl rfl (hb hby e10_2_30)
  have nq2 : a2 ≠ b1 := (Nat.ne_of_lt (Nat.lt_of_lt_of_le E_a2.lt (Nat.le_of_eq gg1.symm)))
  have nq3 : a2 ≠ t_2 := (Nat.ne_of_lt (Nat.lt_of_lt_of_le (E_a2.ext E1).lt sq_t_2))
  have nq4 : ta ≠ b1 := (Nat.ne_of_lt (Nat.lt_of_lt_of_le V_ta.lt (Nat.le_of_eq gg1.symm)))
  have nq5 : ta ≠ t_2 := (Nat.ne_of_lt (Nat.lt_of_lt_of_le (V_ta.ext E1).lt sq_t_2))
  obtain ⟨cq9, kq9, q9a, q9b, q9c⟩ := isOf hZ6 e8 (((((A1.keep K2).ext E4).keep K5).ext E6).keep K7)
  obtain ⟨_, _, ⟨T9, LL9, kk9, nn9⟩, -, X9, ⟨Lc9, hQ9, l9, y9, z9⟩, st9⟩ := X8.virtualBack hx (y := (⟨"java/lang/StringBuilder", "append", "(Ljava/lang/String;)Ljava/lang/StringBuilder;"⟩ : MethodName)) (z := (⟨"java/lang/StringBuilder", "append", "(Ljava/lang/String;)Ljava/lang/StringBuilder;"⟩ : MethodName)) hown6 (mvT hZ6 (own_t hw 130 rfl)) (mvT hZ6 (own_t hw 131 rfl)) (notFace_of_selects (args := #[]) (mvT hZ6 (own_t hw 133 rfl))) (mvT hZ6 (own_t hw 133 rfl)) (mvT hZ6 (own_t hw 132 rfl)) (by decide) (backOf (W := 0) (rmSA l Z a0 hw [] b1 a2 r_7 (20 : Int32) (22 : Int32) ta ka (2 : Int32) [(.int x1), (.int x2)] kr_7 (34 : Int32) [(.int 98), (.int 101), (.int 115), (.int 116), (.int 45), (.int 101), (.int 102), (.int 102), (.int 111), (.int 114), (.int 116), (.int 32), (.int 109), (.int 101), (.int 115), (.int 115), (.int 97), (.int 103), (.int 101), (.int 32), oz, oz, oz, oz, oz, oz, oz, oz, oz, oz, oz, oz, oz, oz] [(.int 98), (.int 101), (.int 115), (.int 116), (.int 45), (.int 101), (.int 102), (.int 102), (.int 111), (.int 114), (.int 116), (.int 32), (.int 109), (.int 101), (.int 115), (.int 115), (.int 97), (.int 103), (.int 101), (.int 32), (.int x1), (.int x2), oz, oz, oz, oz, oz, oz, oz, oz, oz, oz, oz, oz] zc T7.heap n0 (Nat.le_trans (Nat.le_trans (Nat.le_trans (Nat.le_trans (Nat.le_trans (Nat.le_trans Z0 E1.1) K2.1) E4.1) K5.1) E6.1) K7.1) (((((A1.keep K2).ext E4).keep K5).ext E6).keep K7) p7_0 p7_1 p7_2 g_b1 p7_3 g_r_7 ((((((E_a2.ext E1).keep K2).ext E4).keep K5).ext E6).keep K7) ((((((F_value_a2.ext E1).keep K2 (ninS nq2 nin0)).ext E4).keep K5 (ninS nq2 (ninS nq3 nin0))).ext E6).keep K7 (ninS nq2 nin0)) ((((((F_coder_a2.ext E1).keep K2 (ninS nq2 nin0)).ext E4).keep K5 (ninS nq2 (ninS nq3 nin0))).ext E6).keep K7 (ninS nq2 nin0)) ((((((V_ta.ext E1).keep K2 (ninS nq4 nin0)).ext E4).keep K5 (ninS nq4 (ninS nq5 nin0))).ext E6).keep K7 (ninS nq4 nin0)) (own_sta_keep1 ((own_sta_keep ((own_sta_keep1 (S_COMPACT_STRINGS_.ext E1) K2 A1).ext E4) K5 (fun _ _ q1 q2 => (ninS (own_nst_exa ((A1.keep K2).ext E4) q1 q2) (ninS (own_nst_arv (p2_3.ext E4) q1 q2) nin0)))).ext E6) K7 ((((A1.keep K2).ext E4).keep K5).ext E6)) (hzc) (by decide) (by decide) (by decide) (by decide) (by decide) (Nat.le_of_ble_eq_true rfl) (rfl)) hZ6 (own_t hw 134 rfl) (own_t hw 113 rfl) (by decide) (by decide)) q9a q9c (g := (mkF m 33 #[.val (.ref a1)] [(.ref a2), (.ref b1)])) rfl (by rw [hml]; rfl) (Steps.refl _) (argsL := [(.ref a2)]) (rest := []) (lenOf pd_25 rfl) rfl (by show 2 * 0 + _ ≤ _; exact Nat.le_of_eq rfl) (hb hby e10_2_33) (fun _ _ => ⟨rfl, e8, (by decide : 7 + 0 ≤ _), (by decide : 142 + 0 ≤ _)⟩)
  dsimp only [Pt.U, Pt.locs, Pt.cells, Pt.slots] at X9 l9 y9 z9 st9 hQ9
  subst l9 y9 z9
  obtain ⟨rfl, N9q, K9, p9_0, p9_1, p9_2, p9_3⟩ := hQ9
  have N9 := Fr.app N7 N9q
  have St_2_9 := Safe.keep K9 (sfS (Safe.exa hZ6.alike (((((A1.keep K2).ext E4).keep K5).ext E6).keep K7) (by decide) (by decide)) (sfS Sr_7_7 sf0)) CH7.1 St_2_7
  have Sr_7_9 := Safe.keep K9 (sfS (Safe.exa hZ6.alike (((((A1.keep K2).ext E4).keep K5).ext E6).keep K7) (by decide) (by decide)) (sfS Sr_7_7 sf0)) CH7.1 Sr_7_7
  have CH9 := CHr.trans CH7 (CHr.keep K9 (sfS (Safe.exa hZ6.alike (((((A1.keep K2).ext E4).keep K5).ext E6).keep K7) (by decide) (by decide)) (sfS Sr_7_7 sf0)) CH7.1)
  have Q9 : Keep h0 T9.heap [] := Q7.trans K9 (allS (Or.inr sz_b1) (allS (Or.inr sz_r_7) all0))
  obtain ⟨b10, T10, h10, k10, t10, c10, X10, e10, E10, hS10, hk10, hZ10, hown10, EA10, FC10, FV10, AV10, -, -, C10, -, SN10, st10⟩ := ldcCH X9 hx hZ6 hown6 (own_t hw 196 rfl) (own_wS Z a0 hw) rfl hS6 (Nat.le_trans (Nat.le_trans hk6 K7.1) K9.1) (own_EW Z a0 hw) (List.mem_of_getElem? (i := 3) rfl) CH9.1 (vs := [(.int 32), (.int 111), (.int 102), (.int 32), (.int 103), (.int 108), (.int 111), (.int 98), (.int 97), (.int 108), (.int 32), (.int 116), (.int 114), (.int 97), (.int 110), (.int 115), (.int 97), (.int 99), (.int 116), (.int 105), (.int 111), (.int 110), (.int 32)]) (z := (23 : Int32)) (by decide) (by decide) rfl (g := (mkF m 36 #[.val (.ref a1)] [(.ref b1)])) rfl (hb hby e10_2_36) (n := 92) (by decide) (by decide) (by decide) (by decide)
  have nq6 : t_2 ≠ b1 := (Ne.symm (Nat.ne_of_lt (Nat.lt_of_lt_of_le A1.lt sq_t_2)))
  have nq7 : t_2 ≠ r_7 := (Nat.ne_of_lt (Nat.lt_of_lt_of_le (p5_3.ext E6).lt sq_r_7))
  have St_2_10 := CHr.safe C10 (((p5_3.ext E6).keep K7 (ninS nq6 nin0)).keep K9 (ninS nq6 (ninS nq7 nin0))).lt St_2_9
  have Sr_7_10 := CHr.safe C10 p9_3.lt Sr_7_9
  have CH10 := CHr.trans CH9 (C10)
  have Q10 : Keep h0 h10 [] := Q9.ext E10
  obtain ⟨cq11, kq11, q11a, q11b, q11c⟩ := isOf hZ10 e10 (((((((A1.keep K2).ext E4).keep K5).ext E6).keep K7).keep K9).ext E10)
  obtain ⟨_, _, ⟨T11, LL11, kk11, nn11⟩, -, X11, ⟨Lc11, hQ11, l11, y11, z11⟩, st11⟩ := X10.virtualBack hx (y := (⟨"java/lang/StringBuilder", "append", "(Ljava/lang/String;)Ljava/lang/StringBuilder;"⟩ : MethodName)) (z := (⟨"java/lang/StringBuilder", "append", "(Ljava/lang/String;)Ljava/lang/StringBuilder;"⟩ : MethodName)) hown10 (mvT hZ10 (own_t hw 130 rfl)) (mvT hZ10 (own_t hw 131 rfl)) (notFace_of_selects (args := #[]) (mvT hZ10 (own_t hw 133 rfl))) (mvT hZ10 (own_t hw 133 rfl)) (mvT hZ10 (own_t hw 132 rfl)) (by decide) (backOf (W := 0) (rmSA_34 l Z a0 hw [] b1 b10 (22 : Int32) (23 : Int32) (45 : Int32) r_7 kr_7 [(.int 98), (.int 101), (.int 115), (.int 116), (.int 45), (.int 101), (.int 102), (.int 102), (.int 111), (.int 114), (.int 116), (.int 32), (.int 109), (.int 101), (.int 115), (.int 115), (.int 97), (.int 103), (.int 101), (.int 32), (.int x1), (.int x2), oz, oz, oz, oz, oz, oz, oz, oz, oz, oz, oz, oz] t10 c10 [(.int 32), (.int 111), (.int 102), (.int 32), (.int 103), (.int 108), (.int 111), (.int 98), (.int 97), (.int 108), (.int 32), (.int 116), (.int 114), (.int 97), (.int 110), (.int 115), (.int 97), (.int 99), (.int 116), (.int 105), (.int 111), (.int 110), (.int 32)] [(.int 98), (.int 101), (.int 115), (.int 116), (.int 45), (.int 101), (.int 102), (.int 102), (.int 111), (.int 114), (.int 116), (.int 32), (.int 109), (.int 101), (.int 115), (.int 115), (.int 97), (.int 103), (.int 101), (.int 32), (.int x1), (.int x2), oz, oz, oz, oz, oz, oz, oz, oz, oz, oz, oz, oz, oz, oz, oz, oz, oz, oz, oz, oz, oz, oz, oz, oz, oz, oz, oz, oz, oz, oz, oz, oz, oz, oz, oz, oz, oz, oz, oz, oz, oz, oz, oz, oz, oz, oz, oz, oz] [(.int 98), (.int 101), (.int 115), (.int 116), (.int 45), (.int 101), (.int 102), (.int 102), (.int 111), (.int 114), (.int 116), (.int 32), (.int 109), (.int 101), (.int 115), (.int 115), (.int 97), (.int 103), (.int 101), (.int 32), (.int x1), (.int x2), (.int 32), (.int 111), (.int 102), (.int 32), (.int 103), (.int 108), (.int 111), (.int 98), (.int 97), (.int 108), (.int 32), (.int 116), (.int 114), (.int 97), (.int 110), (.int 115), (.int 97), (.int 99), (.int 116), (.int 105), (.int 111), (.int 110), (.int 32), oz, oz, oz, oz, oz, oz, oz, oz, oz, oz, oz, oz, oz, oz, oz, oz, oz, oz, oz, oz, oz, oz, oz, oz, oz] zc h10 n0 (Nat.le_trans (Nat.le_trans (Nat.le_trans (Nat.le_trans (Nat.le_trans (Nat.le_trans (Nat.le_trans (Nat.le_trans Z0 E1.1) K2.1) E4.1) K5.1) E6.1) K7.1) K9.1) E10.1) (((((((A1.keep K2).ext E4).keep K5).ext E6).keep K7).keep K9).ext E10) (p9_0.ext E10) (p9_1.ext E10) (p9_2.ext E10) g_b1 (p9_3.ext E10) EA10 FV10 FC10 AV10 ((own_sta_keep (own_sta_keep1 ((own_sta_keep ((own_sta_keep1 (S_COMPACT_STRINGS_.ext E1) K2 A1).ext E4) K5 (fun _ _ q1 q2 => (ninS (own_nst_exa ((A1.keep K2).ext E4) q1 q2) (ninS (own_nst_arv (p2_3.ext E4) q1 q2) nin0)))).ext E6) K7 ((((A1.keep K2).ext E4).keep K5).ext E6)) K9 (fun _ _ q1 q2 => (ninS (own_nst_exa (((((A1.keep K2).ext E4).keep K5).ext E6).keep K7) q1 q2) (ninS (own_nst_arv p7_3 q1 q2) nin0)))).ext E10) (hzc) (rfl) (by decide) (by decide) (by decide) (by decide) (by decide) (by decide) (Nat.le_of_ble_eq_true rfl) (rfl)) hZ10 (own_t hw 134 rfl) (own_t hw 113 rfl) (by decide) (by decide)) q11a q11c (g := (mkF m 38 #[.val (.ref a1)] [(.ref b10), (.ref b1)])) rfl (by rw [hml]; rfl) (Steps.refl _) (argsL := [(.ref b10)]) (rest := []) (lenOf pd_25 rfl) rfl (by show 2 * 0 + _ ≤ _; exact Nat.le_of_eq rfl) (hb hby e10_2_38) (fun _ _ => ⟨rfl, e10, (by decide : 9 + 1 ≤ _), (by decide : 238 + 70 ≤ _)⟩)
  dsimp only [Pt.U, Pt.locs, Pt.cells, Pt.slots] at X11 l11 y11 z11 st11 hQ11
  subst l11 y11 z11
  obtain ⟨r_11, kr_11, rfl, N11q, K11, g_r_11, sq_r_11, p11_0, p11_1, p11_2, p11_3⟩ := hQ11
  have N11 := Fr.app N9 N11q
  have St_2_11 := Safe.keep K11 (sfS (Safe.exa hZ10.alike (((((((A1.keep K2).ext E4).keep K5).ext E6).keep K7).keep K9).ext E10) (by decide) (by decide)) sf0) CH10.1 St_2_10
  have Sr_7_11 := Safe.keep K11 (sfS (Safe.exa hZ10.alike (((((((A1.keep K2).ext E4).keep K5).ext E6).keep K7).keep K9).ext E10) (by decide) (by decide)) sf0) CH10.1 Sr_7_10
  have Sr_11_11 := Safe.keep K11 (sfS (Safe.exa hZ10.alike (((((((A1.keep K2).ext E4).keep K5).ext E6).keep K7).keep K9).ext E10) (by decide) (by decide)) sf0) CH10.1 (Safe.new (vm := _) sq_r_11)
  have CH11 := CHr.trans CH10 (CHr.keep K11 (sfS (Safe.exa hZ10.alike (((((((A1.keep K2).ext E4).keep K5).ext E6).keep K7).keep K9).ext E10) (by decide) (by decide)) sf0) CH10.1)
  have sz_r_11 : h0.size ≤ r_11 := Nat.le_trans Q10.1 sq_r_11
  have Q11 : Keep h0 T11.heap [] := Q10.trans K11 (allS (Or.inr sz_b1) all0)
  have nq8 : a1 ≠ r_7 := (Nat.ne_of_lt (Nat.lt_of_lt_of_le (((((F_id_a1.ext E1).keep K2 (ninS nq0 nin0)).ext E4).keep K5 (ninS nq0 (ninS nq1 nin0))).ext E6).lt sq_r_7))
  obtain ⟨T12, X12, e12, st12⟩ := getF X11 hx hZ10 hown10 (host := "") (Or.inl (own_t hw 96 rfl)) Via.refl rfl (((((((((F_gid_a1.ext E1).keep K2 (ninS nq0 nin0)).ext E4).keep K5 (ninS nq0 (ninS nq1 nin0))).ext E6).keep K7 (ninS nq0 nin0)).keep K9 (ninS nq0 (ninS nq8 nin0))).ext E10).keep K11 (ninS nq0 nin0)) (g := (mkF m 42 #[.val (.ref a1)] [(.ref a1), (.ref b1)])) rfl rfl (hb hby e10_2_42)
  have nq9 : a3 ≠ b1 := (Nat.ne_of_lt (Nat.lt_of_lt_of_le E_a3.lt (Nat.le_of_eq gg1.symm)))
  have nq10 : a3 ≠ t_2 := (Nat.ne_of_lt (Nat.lt_of_lt_of_le (E_a3.ext E1).lt sq_t_2))
  have nq11 : a3 ≠ r_7 := (Nat.ne_of_lt (Nat.lt_of_lt_of_le (((((E_a3.ext E1).keep K2).ext E4).keep K5).ext E6).lt sq_r_7))
  have nq12 : tb ≠ b1 := (Nat.ne_of_lt (Nat.lt_of_lt_of_le V_tb.lt (Nat.le_of_eq gg1.symm)))
  have nq13 : tb ≠ t_2 := (Nat.ne_of_lt (Nat.lt_of_lt_of_le (V_tb.ext E1).lt sq_t_2))
  have nq14 : tb ≠ r_7 := (Nat.ne_of_lt (Nat.lt_of_lt_of_le (((((V_tb.ext E1).keep K2 (ninS nq12 nin0)).ext E4).keep K5 (ninS nq12 (ninS nq13 nin0))).ext E6).lt sq_r_7))
  obtain ⟨cq13, kq13, q13a, q13b, q13c⟩ := isOf hZ10 e12 ((((((((A1.keep K2).ext E4).keep K5).ext E6).keep K7).keep K9).ext E10).keep K11)
  obtain ⟨_, _, ⟨T13, LL13, kk13, nn13⟩, -, X13, ⟨Lc13, hQ13, l13, y13, z13⟩, st13⟩ := X12.virtualBack hx (y := (⟨"java/lang/StringBuilder", "append", "(Ljava/lang/String;)Ljava/lang/StringBuilder;"⟩ : MethodName)) (z := (⟨"java/lang/StringBuilder", "append", "(Ljava/lang/String;)Ljava/lang/StringBuilder;"⟩ : MethodName)) hown10 (mvT hZ10 (own_t hw 130 rfl)) (mvT hZ10 (own_t hw 131 rfl)) (notFace_of_selects (args := #[]) (mvT hZ10 (own_t hw 133 rfl))) (mvT hZ10 (own_t hw 133 rfl)) (mvT hZ10 (own_t hw 132 rfl)) (by decide) (backOf (W := 0) (rmSA l Z a0 hw [] b1 a3 r_11 (45 : Int32) (47 : Int32) tb kb (2 : Int32) [(.int x3), (.int x4)] kr_11 (70 : Int32) [(.int 98), (.int 101), (.int 115), (.int 116), (.int 45), (.int 101), (.int 102), (.int 102), (.int 111), (.int 114), (.int 116), (.int 32), (.int 109), (.int 101), (.int 115), (.int 115), (.int 97), (.int 103), (.int 101), (.int 32), (.int x1), (.int x2), (.int 32), (.int 111), (.int 102), (.int 32), (.int 103), (.int 108), (.int 111), (.int 98), (.int 97), (.int 108), (.int 32), (.int 116), (.int 114), (.int 97), (.int 110), (.int 115), (.int 97), (.int 99), (.int 116), (.int 105), (.int 111), (.int 110), (.int 32), oz, oz, oz, oz, oz, oz, oz, oz, oz, oz, oz, oz, oz, oz, oz, oz, oz, oz, oz, oz, oz, oz, oz, oz, oz] [(.int 98), (.int 101), (.int 115), (.int 116), (.int 45), (.int 101), (.int 102), (.int 102), (.int 111), (.int 114), (.int 116), (.int 32), (.int 109), (.int 101), (.int 115), (.int 115), (.int 97), (.int 103), (.int 101), (.int 32), (.int x1), (.int x2), (.int 32), (.int 111), (.int 102), (.int 32), (.int 103), (.int 108), (.int 111), (.int 98), (.int 97), (.int 108), (.int 32), (.int 116), (.int 114), (.int 97), (.int 110), (.int 115), (.int 97), (.int 99), (.int 116), (.int 105), (.int 111), (.int 110), (.int 32), (.int x3), (.int x4), oz, oz, oz, oz, oz, oz, oz, oz, oz, oz, oz, oz, oz, oz, oz, oz, oz, oz, oz, oz, oz, oz, oz] zc T11.heap n0 (Nat.le_trans (Nat.le_trans (Nat.le_trans (Nat.le_trans (Nat.le_trans (Nat.le_trans (Nat.le_trans (Nat.le_trans (Nat.le_trans Z0 E1.1) K2.1) E4.1) K5.1) E6.1) K7.1) K9.1) E10.1) K11.1) ((((((((A1.keep K2).ext E4).keep K5).ext E6).keep K7).keep K9).ext E10).keep K11) p11_0 p11_1 p11_2 g_b1 p11_3 g_r_11 (((((((((E_a3.ext E1).keep K2).ext E4).keep K5).ext E6).keep K7).keep K9).ext E10).keep K11) (((((((((F_value_a3.ext E1).keep K2 (ninS nq9 nin0)).ext E4).keep K5 (ninS nq9 (ninS nq10 nin0))).ext E6).keep K7 (ninS nq9 nin0)).keep K9 (ninS nq9 (ninS nq11 nin0))).ext E10).keep K11 (ninS nq9 nin0)) (((((((((F_coder_a3.ext E1).keep K2 (ninS nq9 nin0)).ext E4).keep K5 (ninS nq9 (ninS nq10 nin0))).ext E6).keep K7 (ninS nq9 nin0)).keep K9 (ninS nq9 (ninS nq11 nin0))).ext E10).keep K11 (ninS nq9 nin0)) (((((((((V_tb.ext E1).keep K2 (ninS nq12 nin0)).ext E4).keep K5 (ninS nq12 (ninS nq13 nin0))).ext E6).keep K7 (ninS nq12 nin0)).keep K9 (ninS nq12 (ninS nq14 nin0))).ext E10).keep K11 (ninS nq12 nin0)) (own_sta_keep1 ((own_sta_keep (own_sta_keep1 ((own_sta_keep ((own_sta_keep1 (S_COMPACT_STRINGS_.ext E1) K2 A1).ext E4) K5 (fun _ _ q1 q2 => (ninS (own_nst_exa ((A1.keep K2).ext E4) q1 q2) (ninS (own_nst_arv (p2_3.ext E4) q1 q2) nin0)))).ext E6) K7 ((((A1.keep K2).ext E4).keep K5).ext E6)) K9 (fun _ _ q1 q2 => (ninS (own_nst_exa (((((A1.keep K2).ext E4).keep K5).ext E6).keep K7) q1 q2) (ninS (own_nst_arv p7_3 q1 q2) nin0)))).ext E10) K11 (((((((A1.keep K2).ext E4).keep K5).ext E6).keep K7).keep K9).ext E10)) (hzc) (by decide) (by decide) (by decide) (by decide) (by decide) (Nat.le_of_ble_eq_true rfl) (rfl)) hZ10 (own_t hw 134 rfl) (own_t hw 113 rfl) (by decide) (by decide)) q13a q13c (g := (mkF m 45 #[.val (.ref a1)] [(.ref a3), (.ref b1)])) rfl (by rw [hml]; rfl) (Steps.refl _) (argsL := [(.ref a3)]) (rest := []) (lenOf pd_25 rfl) rfl (by show 2 * 0 + _ ≤ _; exact Nat.le_of_eq rfl) (hb hby e10_2_45) (fun _ _ => ⟨rfl, e12, (by decide : 10 + 0 ≤ _), (by decide : 308 + 0 ≤ _)⟩)
  dsimp only [Pt.U, Pt.locs, Pt.cells, Pt.slots] at X13 l13 y13 z13 st13 hQ13
  subst l13 y13 z13
  obtain ⟨rfl, N13q, K13, p13_0, p13_1, p13_2, p13_3⟩ := hQ13
  have N13 := Fr.app N11 N13q
  have St_2_13 := Safe.keep K13 (sfS (Safe.exa hZ10.alike ((((((((A1.keep K2).ext E4).keep K5).ext E6).keep K7).keep K9).ext E10).keep K11) (by decide) (by decide)) (sfS Sr_11_11 sf0)) CH11.1 St_2_11
  have Sr_7_13 := Safe.keep K13 (sfS (Safe.exa hZ10.alike ((((((((A1.keep K2).ext E4).keep K5).ext E6).keep K7).keep K9).ext E10).keep K11) (by decide) (by decide)) (sfS Sr_11_11 sf0)) CH11.1 Sr_7_11
  have Sr_11_13 := Safe.keep K13 (sfS (Safe.exa hZ10.alike ((((((((A1.keep K2).ext E4).keep K5).ext E6).keep K7).keep K9).ext E10).keep K11) (by decide) (by decide)) (sfS Sr_11_11 sf0)) CH11.1 Sr_11_11
  have CH13 := CHr.trans CH11 (CHr.keep K13 (sfS (Safe.exa hZ10.alike ((((((((A1.keep K2).ext E4).keep K5).ext E6).keep K7).keep K9).ext E10).keep K11) (by decide) (by decide)) (sfS Sr_11_11 sf0)) CH11.1)
  have Q13 : Keep h0 T13.heap [] := Q11.trans K13 (allS (Or.inr sz_b1) (allS (Or.inr sz_r_11) all0))
  obtain ⟨cq14, kq14, q14a, q14b, q14c⟩ := isOf hZ10 rfl (((((((((A1.keep K2).ext E4).keep K5).ext E6).keep K7).keep K9).ext E10).keep K11).keep K13)
  obtain ⟨_, _, ⟨T14, LL14, kk14, nn14⟩, -, X14, ⟨Lc14, hQ14, l14, y14, z14⟩, st14⟩ := X13.virtualBack hx (y := (⟨"java/lang/StringBuilder", "toString", "()Ljava/lang/String;"⟩ : MethodName)) (z := (⟨"java/lang/StringBuilder", "toString", "()Ljava/lang/String;"⟩ : MethodName)) hown10 (mvT hZ10 (own_t hw 197 rfl)) (mvT hZ10 (own_t hw 198 rfl)) (notFace_of_selects (args := #[]) (mvT hZ10 (own_t hw 200 rfl))) (mvT hZ10 (own_t hw 200 rfl)) (mvT hZ10 (own_t hw 199 rfl)) (by decide) (backOf (W := 0) (rmTS_47 l Z a0 hw [] b1 r_11 kr_11 [(.int 98), (.int 101), (.int 115), (.int 116), (.int 45), (.int 101), (.int 102), (.int 102), (.int 111), (.int 114), (.int 116), (.int 32), (.int 109), (.int 101), (.int 115), (.int 115), (.int 97), (.int 103), (.int 101), (.int 32), (.int x1), (.int x2), (.int 32), (.int 111), (.int 102), (.int 32), (.int 103), (.int 108), (.int 111), (.int 98), (.int 97), (.int 108), (.int 32), (.int 116), (.int 114), (.int 97), (.int 110), (.int 115), (.int 97), (.int 99), (.int 116), (.int 105), (.int 111), (.int 110), (.int 32), (.int x3), (.int x4), oz, oz, oz, oz, oz, oz, oz, oz, oz, oz, oz, oz, oz, oz, oz, oz, oz, oz, oz, oz, oz, oz, oz] [(.int 98), (.int 101), (.int 115), (.int 116), (.int 45), (.int 101), (.int 102), (.int 102), (.int 111), (.int 114), (.int 116), (.int 32), (.int 109), (.int 101), (.int 115), (.int 115), (.int 97), (.int 103), (.int 101), (.int 32), (.int x1), (.int x2), (.int 32), (.int 111), (.int 102), (.int 32), (.int 103), (.int 108), (.int 111), (.int 98), (.int 97), (.int 108), (.int 32), (.int 116), (.int 114), (.int 97), (.int 110), (.int 115), (.int 97), (.int 99), (.int 116), (.int 105), (.int 111), (.int 110), (.int 32), (.int x3), (.int x4)] zc T13.heap n0 (Nat.le_trans (Nat.le_trans (Nat.le_trans (Nat.le_trans (Nat.le_trans (Nat.le_trans (Nat.le_trans (Nat.le_trans (Nat.le_trans (Nat.le_trans Z0 E1.1) K2.1) E4.1) K5.1) E6.1) K7.1) K9.1) E10.1) K11.1) K13.1) (((((((((A1.keep K2).ext E4).keep K5).ext E6).keep K7).keep K9).ext E10).keep K11).keep K13) p13_0 p13_1 p13_2 p13_3 (rfl) (own_sta_keep (own_sta_keep1 ((own_sta_keep (own_sta_keep1 ((own_sta_keep ((own_sta_keep1 (S_COMPACT_STRINGS_.ext E1) K2 A1).ext E4) K5 (fun _ _ q1 q2 => (ninS (own_nst_exa ((A1.keep K2).ext E4) q1 q2) (ninS (own_nst_arv (p2_3.ext E4) q1 q2) nin0)))).ext E6) K7 ((((A1.keep K2).ext E4).keep K5).ext E6)) K9 (fun _ _ q1 q2 => (ninS (own_nst_exa (((((A1.keep K2).ext E4).keep K5).ext E6).keep K7) q1 q2) (ninS (own_nst_arv p7_3 q1 q2) nin0)))).ext E10) K11 (((((((A1.keep K2).ext E4).keep K5).ext E6).keep K7).keep K9).ext E10)) K13 (fun _ _ q1 q2 => (ninS (own_nst_exa ((((((((A1.keep K2).ext E4).keep K5).ext E6).keep K7).keep K9).ext E10).keep K11) q1 q2) (ninS (own_nst_arv p11_3 q1 q2) nin0)))) (hzc)) hZ10 (own_t hw 201 rfl) (own_t hw 113 rfl) (by decide) (by decide)) q14a q14c (g := (mkF m 48 #[.val (.ref a1)] [(.ref b1)])) rfl (by rw [hml]; rfl) (Steps.refl _) (argsL := []) (rest := []) (lenOf pd_26 rfl) rfl (by show 2 * 0 + _ ≤ _; exact Nat.le_of_eq rfl) (hb hby e10_2_48) (fun _ _ => ⟨rfl, rfl, (by decide : 10 + 2 ≤ _), (by decide : 308 + 51 ≤ _)⟩)
  dsimp only [Pt.U, Pt.locs, Pt.cells, Pt.slots] at X14 l14 y14 z14 st14 hQ14
  subst l14 y14 z14
  obtain ⟨b_14, t_14, kt_14, rfl, N14q, K14, g_b_14, sq_b_14, g_t_14, sq_t_14, p14_0, p14_1, p14_2, p14_3⟩ := hQ14
  have N14 := Fr.app N13 N14q
  have St_2_14 := Safe.keep K14 sf0 CH13.1 St_2_13
  have Sr_7_14 := Safe.keep K14 sf0 CH13.1 Sr_7_13
  have Sr_11_14 := Safe.keep K14 sf0 CH13.1 Sr_11_13
  have St_14_14 := Safe.keep K14 sf0 CH13.1 (Safe.new (vm := _) sq_t_14)
  have CH14 := CHr.trans CH13 (CHr.keep K14 sf0 CH13.1)
  have sz_b_14 : h0.size ≤ b_14 := Nat.le_trans Q13.1 sq_b_14
  have sz_t_14 : h0.size ≤ t_14 := Nat.le_trans Q13.1 sq_t_14
  have Q14 : Keep h0 T14.heap [] := Q13.trans K14 all0
  obtain ⟨fs, hr, hrun, hended, hR⟩ := X14.leaveW hS10 (Nat.le_trans (Nat.le_trans (Nat.le_trans hk10 K11.1) K13.1) K14.1) (v := some (.ref b_14)) (fun h => by rw [Bd.returns] at h; cases h)
  refine ⟨_, _, pre0 _ ?_, hrun, hended, _, _, rfl, ?_, ?_, hR.1, hR.2.1, hR.2.2.1, hR.2.2.2.mono (by decide) (by decide)⟩
  · show Steps p.tables e below (s₁.setTop (mkF m 0 #[.val (.ref a1)] [])) _
    refine st1 _ ?_
    show Steps p.tables e below (T1.setTop (mkF m 3 #[.val (.ref a1)] [(.ref b1)])) _
    refine XS.dup X1.here hx rfl (hb hby e10_2_3) rfl rfl ?_
    refine st2.trans ?_
    show Steps p.tables e below (T2.setTop (mkF m 7 #[.val (.ref a1)] [(.ref b1)])) _
    refine XS.aloadN X2.here hx rfl (hb hby e10_2_7) rfl rfl ?_
    refine st3 _ ?_
    show Steps p.tables e below (T3.setTop (mkF m 11 #[.val (.ref a1)] [(.int 0), (.ref b1)])) _
    refine XS.ifYes X3.here hx rfl (pc0 := 11) (pc' := 19) rfl (hb hby e10_2_11) rfl ((if0 _ _).trans (teq (by decide : (0 : Int32) = (0 : Int32))).1) (by decide) (by decide) ?_
    show Steps p.tables e below (T3.setTop (mkF m 19 #[.val (.ref a1)] [(.ref b1)])) _
    refine st4 _ ?_
    show Steps p.tables e below (T4.setTop (mkF m 21 #[.val (.ref a1)] [(.ref b4), (.ref b1)])) _
    refine st5.trans ?_
    show Steps p.tables e below (T5.setTop (mkF m 24 #[.val (.ref a1)] [(.ref b1)])) _
    refine st6 _ ?_
    show Steps p.tables e below (T6.setTop (mkF m 26 #[.val (.ref a1)] [(.ref b6), (.ref b1)])) _
    refine st7.trans ?_
    show Steps p.tables e below (T7.setTop (mkF m 29 #[.val (.ref a1)] [(.ref b1)])) _
    refine XS.aloadN X7.here hx rfl (hb hby e10_2_29) rfl rfl ?_
    refine st8 _ ?_
    show Steps p.tables e below (T8.setTop (mkF m 33 #[.val (.ref a1)] [(.ref a2), (.ref b1)])) _
    refine st9.trans ?_
    show Steps p.tables e below (T9.setTop (mkF m 36 #[.val (.ref a1)] [(.ref b1)])) _
    refine st10 _ ?_
    show Steps p.tables e below (T10.setTop (mkF m 38 #[.val (.ref a1)] [(.ref b10), (.ref b1)])) _
    refine st11.trans ?_
    show Steps p.tables e below (T11.setTop (mkF m 41 #[.val (.ref a1)] [(.ref b1)])) _
    refine XS.aloadN X11.here hx rfl (hb hby e10_2_41) rfl rfl ?_
    refine st12 _ ?_
    show Steps p.tables e below (T12.setTop (mkF m 45 #[.val (.ref a1)] [(.ref a3), (.ref b1)])) _
    refine st13.trans ?_
    show Steps p.tables e below (T13.setTop (mkF m 48 #[.val (.ref a1)] [(.ref b1)])) _
    refine st14.trans ?_
    show Steps p.tables e below (T14.setTop (mkF m 51 #[.val (.ref a1)] [(.ref b_14)])) _
    exact X14.areturnOut hx rfl Bd.returns rfl (hb hby e10_2_51) hr
  · show Q_rmD0 Z a1 a2 ta ka a3 tb kb x1 x2 x3 x4 zc h0 n0 _ T14.heap _
    exact ⟨b_14, t_14, kt_14, rfl, N14, Q14, g_b_14, sz_b_14, g_t_14, sz_t_14, p14_0, p14_1, p14_2, p14_3⟩
  · show CHr Z own_EL s.vm s.heap T14.vm T14.heap
    rw [hh]
    exact CHr.trans CH14 (CHv.at X14 hZ10 (own_EW Z a0 hw) CH14.1)
theorem own_eqr {args : Array Value} {s : State} {t t' : Term} {x y : Addr} (h : (Jvm.Cond.eq t t').value args s none s [] = some true) (ht : t.eval args s none [] s = some (.ref x)) (ht' : t'.eval args s none [] s = some (.ref y)) : y = x := by
  simp [Cond.value, ht, ht'] at h
  exact h.symm
def own_F0 (p1 p2 p3 p4 p5 : Int32) (y0 : Addr) (y1 : Addr) : Array Slot := #[.val (.int p1), .val (.int p2), .val (.int p3), .val (.int p4), .val (.int p5), .val (.int 0), .val (.int (own_ch p2)), .val (.int (own_ch p3)), .val (.int (own_ch p4)), .val (.int (own_ch p5)), .val (.ref y0), .val (.ref y1), .unset, .unset, .unset, .unset]
theorem pd_27 : parseMethodDescriptor "([C)V" = some ⟨[(.array .char)], none⟩ := by decide +kernel
theorem pd_28 : parseMethodDescriptor "(Ljava/lang/String;Ljava/lang/String;ZLjava/lang/String;Ljava/lang/String;[B)V" = some ⟨[(.object "java/lang/String"), (.object "java/lang/String"), .boolean, (.object "java/lang/String"), (.object "java/lang/String"), (.array .byte)], none⟩ := by decide +kernel
theorem pd_29 : parseMethodDescriptor "(Ljava/lang/Object;)Z" = some ⟨[(.object "java/lang/Object")], some .boolean⟩ := by decide +kernel
def own_F1 (p1 p2 p3 p4 p5 : Int32) (y0 : Addr) (y1 : Addr) : Array Slot := #[.val (.int p1), .val (.int p2), .val (.int p3), .val (.int p4), .val (.int p5), .val (.int 1), .val (.int (own_ch p2)), .val (.int (own_ch p3)), .val (.int (own_ch p4)), .val (.int (own_ch p5)), .val (.ref y0), .val (.ref y1), .unset, .unset, .unset, .unset]
def own_F2 (p1 p2 p3 p4 p5 : Int32) (y0 : Addr) (y1 : Addr) (y2 : Addr) : Array Slot := #[.val (.int p1), .val (.int p2), .val (.int p3), .val (.int p4), .val (.int p5), .val (.int 1), .val (.int (own_ch p2)), .val (.int (own_ch p3)), .val (.int (own_ch p4)), .val (.int (own_ch p5)), .val (.ref y0), .val (.ref y1), .val (.ref y2), .unset, .unset, .unset]
def Q_rm0 (Z : State) (p1 : Int32) (p2 : Int32) (p3 : Int32) (p4 : Int32) (p5 : Int32) (zc : Int32) (cu : Addr) (h0 : Heap) (n0 : Nat) (v : Option Value) (h : Heap) (L : List Loc) : Prop := v = some (.int 1) ∧ Fr n0 L ∧ Keep h0 h []
theorem pn_9 : plainName "com/example/gentle_commit/gentlecommit/initiator/MessageDescribePinLaw" = true := by first | (simp [plainName, overriddenIn]; done) | decide +kernel
theorem ef_15 (m : MethodId) (x0 : Int32) (x1 : Int32) (x2 : Int32) (x3 : Int32) (x4 : Int32) : entryFrame m #[(.int x0), (.int x1), (.int x2), (.int x3), (.int x4)] maxLocals = mkF m 0 #[.val (.int x0), .val (.int x1), .val (.int x2), .val (.int x3), .val (.int x4), .unset, .unset, .unset, .unset, .unset, .unset, .unset, .unset, .unset, .unset, .unset] [] := by first | (simp [entryFrame, mkF, argsToLocals, Value.category, maxLocals]; done) | rfl
set_option maxRecDepth 65536 in
set_option maxHeartbeats 40000000 in
theorem rm0_t (l : Launch) (Z : State) (a0 : Array Value) (hw : ∀ d ∈ tables_1, d.before a0 Z = true) (ws : List Jvm.Cond) (p1 : Int32) (p2 : Int32) (p3 : Int32) (p4 : Int32) (p5 : Int32) (zc : Int32) (cu : Addr) (h0 : Heap) (n0 : Nat) (Z0 : n0 ≤ h0.size) (S_COMPACT_STRINGS_ : Sta Z h0 "java/lang/String" "COMPACT_STRINGS" "Z" (.int zc)) (hzc : ¬ zc = 0) (S_UTF_8_ : Sta Z h0 "java/nio/charset/StandardCharsets" "UTF_8" "Ljava/nio/charset/Charset;" (.ref cu)) (S_INSTANCE_ : Sta Z h0 "sun/nio/cs/UTF_8" "INSTANCE" "Lsun/nio/cs/UTF_8;" (.ref cu)) (hn0 : n0 = h0.size) (hcst : ∀ p ∈ own_EL, Jvm.Lit.constHeld Z p.1 p.2) (hcw : Jvm.Lit.compactW.before a0 Z = true) (hc3 : (p1 &&& (1 : Int32)) = (0 : Int32)) :
    MetFree l x (head1 (Jvm.Cond.code x code maxLocals ret :: ws) room_1) (fun a U => a = #[(.int p1), (.int p2), (.int p3), (.int p4), (.int p5)] ∧ Z = U ∧ U.heap = h0) (fun _ _ _ _ _ => True) (fun _ U o U' => ∃ v L, o = .returned v ∧ Q_rm0 Z p1 p2 p3 p4 p5 zc cu h0 n0 v U'.heap L ∧ ReturnedEndW U o U' L room_1.cells room_1.slots) := by
  refine MetFree.of_bodySF (plainFor_of_name pn_9) hisR ?_
  intro p e s m args below meth c s₁ Bd hml0 hP hK
  obtain ⟨rfl, hZ, hh⟩ := hP
  have hZU := hZ
  replace hZ : Z.Warmed39 s.vm := hZU ▸ State.Warmed39.refl _
  have hkeep : ∀ (b : Addr) (cl : Cell), Z.heap[b]? = some cl → s.heap[b]? = some cl := fun b cl q => hZU ▸ q
  have IB0 : IB Z s.vm [] := hZU ▸ IB.start
  have hNs : ∀ {L : List Loc}, Fr n0 L → Fr s.heap.size L := fun q => by rw [hh, ← hn0]; exact q
  have hx := Bd.exec
  have hby := Bd.bytes
  have hml : c.maxLocals = 16 := hml0
  have hown : s.vm.findClass "com/example/gentle_commit/gentlecommit/initiator/MessageDescribePinLaw" = some m.cls := findClass_of_methodNamed Bd.named
  have hnm := (name_of_methodNamed Bd.named Bd.method).1
  have X0 : Stand p l e room_1 s m #[(.int p1), (.int p2), (.int p3), (.int p4), (.int p5)] below meth c s₁ [] 0 0 := Stand.of_body Bd
  have e0 : s₁.heap = h0 := by rw [← hh, Bd.state]; rfl
  have N0 := Fr.nil n0
  have pre0 : ∀ t, Steps p.tables e below (s₁.setTop (mkF m 0 #[.val (.int p1), .val (.int p2), .val (.int p3), .val (.int p4), .val (.int p5), .unset, .unset, .unset, .unset, .unset, .unset, .unset, .unset, .unset, .unset, .unset] [])) t → Steps p.tables e below (s₁.setTop (entryFrame m #[(.int p1), (.int p2), (.int p3), (.int p4), (.int p5)] maxLocals)) t := fun t k => castTop (ef_15 m p1 p2 p3 p4 p5) k
  have X0w : Stand p l e room_1 (s.setVm s.vm) m #[(.int p1), (.int p2), (.int p3), (.int p4), (.int p5)] below meth c s₁ [] 0 0 := X0
  have hZ0 : Z.Warmed39 (s.setVm s.vm).vm := hZ
  have hown0 : (s.setVm s.vm).vm.findClass "com/example/gentle_commit/gentlecommit/initiator/MessageDescribePinLaw" = some m.cls := hown
  have hS0 : s.Since s.vm 0 := (State.WarmedH.refl s).since 0
  have hk0 : 0 ≤ h0.size := Nat.zero_le _
  have CH0 : CHr Z own_EL s.vm h0 s.vm h0 := CHr.refl (hh ▸ hZU ▸ CHv.start (own_EW Z a0 hw) hcst hcw (own_t hw 19 rfl) (own_t hw 2 rfl))
  obtain ⟨T1, h1, k1, X1, e1, E1, A1, st1⟩ := newP X0w hx hZ0 (own_t hw 0 rfl) e0 (g := (mkF m 47 #[.val (.int p1), .val (.int p2), .val (.int p3), .val (.int p4), .val (.int p5), .val (.int 0), .val (.int (own_ch p2)), .val (.int (own_ch p3)), .val (.int (own_ch p4)), .val (.int (own_ch p5)), .unset, .unset, .unset, .unset, .unset, .unset] [(.int 2)])) rfl (hb hby at_47) rfl (by decide) (cap := 2) (by decide) (by decide) (by decide) (by decide)
  obtain ⟨b1, gg1⟩ : ∃ z, z = h0.size := ⟨_, rfl⟩
  rw [← gg1] at A1 st1
  have CH1 := CHr.trans CH0 (CHr.ext E1 CH0.1)
  have g_b1 : n0 ≤ b1 := Nat.le_trans Z0 (Nat.le_of_eq gg1.symm)
  have sz_b1 : h0.size ≤ b1 := Nat.le_trans (Keep.refl h0 []).1 (Nat.le_of_eq gg1.symm)
  have Q1 : Keep h0 h1 [] := (Keep.refl h0 []).ext E1
  have V_b1 : Arv Z h1 b1 k1 .char (2 : Int32) [(.int 0), (.int 0)] (.int 0) := (Arv.new A1 (by decide)).pad (pad_rep [] (.int 0) 2)
  obtain ⟨cl2, Ar2, q2, S2, M2, H2, G2⟩ := id V_b1
  obtain ⟨T3, h3, X3, e3, W3, st3⟩ := stC X1 hx hZ0 e1 Ar2 (j := (0 : Int32)) (inb_of S2 ⟨by decide, by decide⟩) (g := (mkF m 53 #[.val (.int p1), .val (.int p2), .val (.int p3), .val (.int p4), .val (.int p5), .val (.int 0), .val (.int (own_ch p2)), .val (.int (own_ch p3)), .val (.int (own_ch p4)), .val (.int (own_ch p5)), .unset, .unset, .unset, .unset, .unset, .unset] [(.int (own_ch p2)), (.int 0), (.ref b1), (.ref b1)])) rfl rfl (hb hby at_53)
  have V3 : Arv Z h3 b1 k1 .char (2 : Int32) [(.int (nar .char (own_ch p2))), (.int 0)] (.int 0) := Arv.set Ar2 q2 S2 M2 H2 G2 (fits_nar_char _) W3 0 rfl (Nat.le_of_ble_eq_true rfl)
  have CH3 := CHr.trans CH1 (CHr.wr W3 (Safe.arv hZ0.alike V_b1 (by decide)) CH1.1)
  have Q3 : Keep h0 h3 [] := Q1.wr W3 (Or.inr sz_b1)
  have N3 := Fr.snoc X3 N0 g_b1
  obtain ⟨cl4, Ar4, q4, S4, M4, H4, G4⟩ := id V3
  obtain ⟨T5, h5, X5, e5, W5, st5⟩ := stC X3 hx hZ0 e3 Ar4 (j := (1 : Int32)) (inb_of S4 ⟨by decide, by decide⟩) (g := (mkF m 58 #[.val (.int p1), .val (.int p2), .val (.int p3), .val (.int p4), .val (.int p5), .val (.int 0), .val (.int (own_ch p2)), .val (.int (own_ch p3)), .val (.int (own_ch p4)), .val (.int (own_ch p5)), .unset, .unset, .unset, .unset, .unset, .unset] [(.int (own_ch p3)), (.int 1), (.ref b1), (.ref b1)])) rfl rfl (hb hby at_58)
  have V5 : Arv Z h5 b1 k1 .char (2 : Int32) [(.int (nar .char (own_ch p2))), (.int (nar .char (own_ch p3)))] (.int 0) := Arv.set Ar4 q4 S4 M4 H4 G4 (fits_nar_char _) W5 1 rfl (Nat.le_of_ble_eq_true rfl)
  have CH5 := CHr.trans CH3 (CHr.wr W5 (Safe.arv hZ0.alike V3 (by decide)) CH3.1)
  have Q5 : Keep h0 h5 [] := Q3.wr W5 (Or.inr sz_b1)
  have N5 := Fr.snoc X5 N3 g_b1
  obtain ⟨T6, h6, k6, X6, e6, E6, A6, st6⟩ := newP X5 hx hZ0 (own_t hw 0 rfl) e5 (g := (mkF m 62 #[.val (.int p1), .val (.int p2), .val (.int p3), .val (.int p4), .val (.int p5), .val (.int 0), .val (.int (own_ch p2)), .val (.int (own_ch p3)), .val (.int (own_ch p4)), .val (.int (own_ch p5)), .val (.ref b1), .unset, .unset, .unset, .unset, .unset] [(.int 2)])) rfl (hb hby at_62) rfl (by decide) (cap := 2) (by decide) (by decide) (by decide) (by decide)
  obtain ⟨b6, gg6⟩ : ∃ z, z = h5.size := ⟨_, rfl⟩
  rw [← gg6] at A6 st6
  have CH6 := CHr.trans CH5 (CHr.ext E6 CH5.1)
  have g_b6 : n0 ≤ b6 := Nat.le_trans (Nat.le_trans (Nat.le_trans (Nat.le_trans Z0 E1.1) (Keep.of_wr W3).1) (Keep.of_wr W5).1) (Nat.le_of_eq gg6.symm)
  have sz_b6 : h0.size ≤ b6 := Nat.le_trans Q5.1 (Nat.le_of_eq gg6.symm)
  have Q6 : Keep h0 h6 [] := Q5.ext E6
  have V_b6 : Arv Z h6 b6 k6 .char (2 : Int32) [(.int 0), (.int 0)] (.int 0) := (Arv.new A6 (by decide)).pad (pad_rep [] (.int 0) 2)
  obtain ⟨cl7, Ar7, q7, S7, M7, H7, G7⟩ := id V_b6
  obtain ⟨T8, h8, X8, e8, W8, st8⟩ := stC X6 hx hZ0 e6 Ar7 (j := (0 : Int32)) (inb_of S7 ⟨by decide, by decide⟩) (g := (mkF m 68 #[.val (.int p1), .val (.int p2), .val (.int p3), .val (.int p4), .val (.int p5), .val (.int 0), .val (.int (own_ch p2)), .val (.int (own_ch p3)), .val (.int (own_ch p4)), .val (.int (own_ch p5)), .val (.ref b1), .unset, .unset, .unset, .unset, .unset] [(.int (own_ch p4)), (.int 0), (.ref b6), (.ref b6)])) rfl rfl (hb hby at_68)
  have V8 : Arv Z h8 b6 k6 .char (2 : Int32) [(.int (nar .char (own_ch p4))), (.int 0)] (.int 0) := Arv.set Ar7 q7 S7 M7 H7 G7 (fits_nar_char _) W8 0 rfl (Nat.le_of_ble_eq_true rfl)
  have CH8 := CHr.trans CH6 (CHr.wr W8 (Safe.arv hZ0.alike V_b6 (by decide)) CH6.1)
  have Q8 : Keep h0 h8 [] := Q6.wr W8 (Or.inr sz_b6)
  have N8 := Fr.snoc X8 N5 g_b6
  obtain ⟨cl9, Ar9, q9, S9, M9, H9, G9⟩ := id V8
  obtain ⟨T10, h10, X10, e10, W10, st10⟩ := stC X8 hx hZ0 e8 Ar9 (j := (1 : Int32)) (inb_of S9 ⟨by decide, by decide⟩) (g := (mkF m 73 #[.val (.int p1), .val (.int p2), .val (.int p3), .val (.int p4), .val (.int p5), .val (.int 0), .val (.int (own_ch p2)), .val (.int (own_ch p3)), .val (.int (own_ch p4)), .val (.int (own_ch p5)), .val (.ref b1), .unset, .unset, .unset, .unset, .unset] [(.int (own_ch p5)), (.int 1), (.ref b6), (.ref b6)])) rfl rfl (hb hby at_73)
  have V10 : Arv Z h10 b6 k6 .char (2 : Int32) [(.int (nar .char (own_ch p4))), (.int (nar .char (own_ch p5)))] (.int 0) := Arv.set Ar9 q9 S9 M9 H9 G9 (fits_nar_char _) W10 1 rfl (Nat.le_of_ble_eq_true rfl)
  have CH10 := CHr.trans CH8 (CHr.wr W10 (Safe.arv hZ0.alike V8 (by decide)) CH8.1)
  have Q10 : Keep h0 h10 [] := Q8.wr W10 (Or.inr sz_b6)
  have N10 := Fr.snoc X10 N8 g_b6
  obtain ⟨T11, h11, k11, X11, e11, E11, A11, st11⟩ := newP X10 hx hZ0 (own_t hw 0 rfl) e10 (g := (mkF m 350 (own_F0 p1 p2 p3 p4 p5 b1 b6) [(.int 47)])) rfl (hb hby at_350) rfl (by decide) (cap := 47) (by decide) (by decide) (by decide) (by decide)
  obtain ⟨b11, gg11⟩ : ∃ z, z = h10.size := ⟨_, rfl⟩
  rw [← gg11] at A11 st11
  have CH11 := CHr.trans CH10 (CHr.ext E11 CH10.1)
  have g_b11 : n0 ≤ b11 := Nat.le_trans (Nat.le_trans (Nat.le_trans (Nat.le_trans (Nat.le_trans (Nat.le_trans (Nat.le_trans Z0 E1.1) (Keep.of_wr W3).1) (Keep.of_wr W5).1) E6.1) (Keep.of_wr W8).1) (Keep.of_wr W10).1) (Nat.le_of_eq gg11.symm)
  have sz_b11 : h0.size ≤ b11 := Nat.le_trans Q10.1 (Nat.le_of_eq gg11.symm)
  have Q11 : Keep h0 h11 [] := Q10.ext E11
  have V_b11 : Arv Z h11 b11 k11 .char (47 : Int32) [oz, oz, oz, oz, oz, oz, oz, oz, oz, oz, oz, oz, oz, oz, oz, oz, oz, oz, oz, oz, oz, oz, oz, oz, oz, oz, oz, oz, oz, oz, oz, oz, oz, oz, oz, oz, oz, oz, oz, oz, oz, oz, oz, oz, oz, oz, oz] (.int 0) := (Arv.new A11 (by decide)).pad (pad_rep [] (.int 0) 47)
  obtain ⟨cl12, Ar12, q12, S12, M12, H12, G12⟩ := id V_b11
  obtain ⟨T13, h13, X13, e13, W13, st13⟩ := stC X11 hx hZ0 e11 Ar12 (j := (0 : Int32)) (inb_of S12 ⟨by decide, by decide⟩) (g := (mkF m 356 (own_F0 p1 p2 p3 p4 p5 b1 b6) [(.int 98), (.int 0), (.ref b11), (.ref b11)])) rfl rfl (hb hby at_356)
  have V13 : Arv Z h13 b11 k11 .char (47 : Int32) [(ow 98), oz, oz, oz, oz, oz, oz, oz, oz, oz, oz, oz, oz, oz, oz, oz, oz, oz, oz, oz, oz, oz, oz, oz, oz, oz, oz, oz, oz, oz, oz, oz, oz, oz, oz, oz, oz, oz, oz, oz, oz, oz, oz, oz, oz, oz, oz] (.int 0) := Arv.set Ar12 q12 S12 M12 H12 G12 (fits_nar_char _) W13 0 rfl (Nat.le_of_ble_eq_true rfl)
  have CH13 := CHr.trans CH11 (CHr.wr W13 (Safe.arv hZ0.alike V_b11 (by decide)) CH11.1)
  have Q13 : Keep h0 h13 [] := Q11.wr W13 (Or.inr sz_b11)
  have N13 := Fr.snoc X13 N10 g_b11
  obtain ⟨cl14, Ar14, q14, S14, M14, H14, G14⟩ := id V13
  obtain ⟨T15, h15, X15, e15, W15, st15⟩ := stC X13 hx hZ0 e13 Ar14 (j := (1 : Int32)) (inb_of S14 ⟨by decide, by decide⟩) (g := (mkF m 361 (own_F0 p1 p2 p3 p4 p5 b1 b6) [(.int 101), (.int 1), (.ref b11), (.ref b11)])) rfl rfl (hb hby at_361)
  have V15 : Arv Z h15 b11 k11 .char (47 : Int32) [(ow 98), (ow 101), oz, oz, oz, oz, oz, oz, oz, oz, oz, oz, oz, oz, oz, oz, oz, oz, oz, oz, oz, oz, oz, oz, oz, oz, oz, oz, oz, oz, oz, oz, oz, oz, oz, oz, oz, oz, oz, oz, oz, oz, oz, oz, oz, oz, oz] (.int 0) := Arv.set Ar14 q14 S14 M14 H14 G14 (fits_nar_char _) W15 1 rfl (Nat.le_of_ble_eq_true rfl)
  have CH15 := CHr.trans CH13 (CHr.wr W15 (Safe.arv hZ0.alike V13 (by decide)) CH13.1)
  have Q15 : Keep h0 h15 [] := Q13.wr W15 (Or.inr sz_b11)
  have N15 := Fr.snoc X15 N13 g_b11
  obtain ⟨cl16, Ar16, q16, S16, M16, H16, G16⟩ := id V15
  obtain ⟨T17, h17, X17, e17, W17, st17⟩ := stC X15 hx hZ0 e15 Ar16 (j := (2 : Int32)) (inb_of S16 ⟨by decide, by decide⟩) (g := (mkF m 366 (own_F0 p1 p2 p3 p4 p5 b1 b6) [(.int 115), (.int 2), (.ref b11), (.ref b11)])) rfl rfl (hb hby at_366)
  have V17 : Arv Z h17 b11 k11 .char (47 : Int32) [(ow 98), (ow 101), (ow 115), oz, oz, oz, oz, oz, oz, oz, oz, oz, oz, oz, oz, oz, oz, oz, oz, oz, oz, oz, oz, oz, oz, oz, oz, oz, oz, oz, oz, oz, oz, oz, oz, oz, oz, oz, oz, oz, oz, oz, oz, oz, oz, oz, oz] (.int 0) := Arv.set Ar16 q16 S16 M16 H16 G16 (fits_nar_char _) W17 2 rfl (Nat.le_of_ble_eq_true rfl)
  have CH17 := CHr.trans CH15 (CHr.wr W17 (Safe.arv hZ0.alike V15 (by decide)) CH15.1)
  have Q17 : Keep h0 h17 [] := Q15.wr W17 (Or.inr sz_b11)
  have N17 := Fr.snoc X17 N15 g_b11
  obtain ⟨cl18, Ar18, q18, S18, M18, H18, G18⟩ := id V17
  obtain ⟨T19, h19, X19, e19, W19, st19⟩ := stC X17 hx hZ0 e17 Ar18 (j := (3 : Int32)) (inb_of S18 ⟨by decide, by decide⟩) (g := (mkF m 371 (own_F0 p1 p2 p3 p4 p5 b1 b6) [(.int 116), (.int 3), (.ref b11), (.ref b11)])) rfl rfl (hb hby at_371)
  have V19 : Arv Z h19 b11 k11 .char (47 : Int32) [(ow 98), (ow 101), (ow 115), (ow 116), oz, oz, oz, oz, oz, oz, oz, oz, oz, oz, oz, oz, oz, oz, oz, oz, oz, oz, oz, oz, oz, oz, oz, oz, oz, oz, oz, oz, oz, oz, oz, oz, oz, oz, oz, oz, oz, oz, oz, oz, oz, oz, oz] (.int 0) := Arv.set Ar18 q18 S18 M18 H18 G18 (fits_nar_char _) W19 3 rfl (Nat.le_of_ble_eq_true rfl)
  have CH19 := CHr.trans CH17 (CHr.wr W19 (Safe.arv hZ0.alike V17 (by decide)) CH17.1)
  have Q19 : Keep h0 h19 [] := Q17.wr W19 (Or.inr sz_b11)
  have N19 := Fr.snoc X19 N17 g_b11
  obtain ⟨cl20, Ar20, q20, S20, M20, H20, G20⟩ := id V19
  obtain ⟨T21, h21, X21, e21, W21, st21⟩ := stC X19 hx hZ0 e19 Ar20 (j := (4 : Int32)) (inb_of S20 ⟨by decide, by decide⟩) (g := (mkF m 376 (own_F0 p1 p2 p3 p4 p5 b1 b6) [(.int 45), (.int 4), (.ref b11), (.ref b11)])) rfl rfl (hb hby at_376)
  have V21 : Arv Z h21 b11 k11 .char (47 : Int32) [(ow 98), (ow 101), (ow 115), (ow 116), (ow 45), oz, oz, oz, oz, oz, oz, oz, oz, oz, oz, oz, oz, oz, oz, oz, oz, oz, oz, oz, oz, oz, oz, oz, oz, oz, oz, oz, oz, oz, oz, oz, oz, oz, oz, oz, oz, oz, oz, oz, oz, oz, oz] (.int 0) := Arv.set Ar20 q20 S20 M20 H20 G20 (fits_nar_char _) W21 4 rfl (Nat.le_of_ble_eq_true rfl)
  have CH21 := CHr.trans CH19 (CHr.wr W21 (Safe.arv hZ0.alike V19 (by decide)) CH19.1)
  have Q21 : Keep h0 h21 [] := Q19.wr W21 (Or.inr sz_b11)
  have N21 := Fr.snoc X21 N19 g_b11
  obtain ⟨cl22, Ar22, q22, S22, M22, H22, G22⟩ := id V21
  obtain ⟨T23, h23, X23, e23, W23, st23⟩ := stC X21 hx hZ0 e21 Ar22 (j := (5 : Int32)) (inb_of S22 ⟨by decide, by decide⟩) (g := (mkF m 381 (own_F0 p1 p2 p3 p4 p5 b1 b6) [(.int 101), (.int 5), (.ref b11), (.ref b11)])) rfl rfl (hb hby at_381)
  have V23 : Arv Z h23 b11 k11 .char (47 : Int32) [(ow 98), (ow 101), (ow 115), (ow 116), (ow 45), (ow 101), oz, oz, oz, oz, oz, oz, oz, oz, oz, oz, oz, oz, oz, oz, oz, oz, oz, oz, oz, oz, oz, oz, oz, oz, oz, oz, oz, oz, oz, oz, oz, oz, oz, oz, oz, oz, oz, oz, oz, oz, oz] (.int 0) := Arv.set Ar22 q22 S22 M22 H22 G22 (fits_nar_char _) W23 5 rfl (Nat.le_of_ble_eq_true rfl)
  have CH23 := CHr.trans CH21 (CHr.wr W23 (Safe.arv hZ0.alike V21 (by decide)) CH21.1)
  have Q23 : Keep h0 h23 [] := Q21.wr W23 (Or.inr sz_b11)
  have N23 := Fr.snoc X23 N21 g_b11
  obtain ⟨cl24, Ar24, q24, S24, M24, H24, G24⟩ := id V23
  obtain ⟨T25, h25, X25, e25, W25, st25⟩ := stC X23 hx hZ0 e23 Ar24 (j := (6 : Int32)) (inb_of S24 ⟨by decide, by decide⟩) (g := (mkF m 387 (own_F0 p1 p2 p3 p4 p5 b1 b6) [(.int 102), (.int 6), (.ref b11), (.ref b11)])) rfl rfl (hb hby at_387)
  have V25 : Arv Z h25 b11 k11 .char (47 : Int32) [(ow 98), (ow 101), (ow 115), (ow 116), (ow 45), (ow 101), (ow 102), oz, oz, oz, oz, oz, oz, oz, oz, oz, oz, oz, oz, oz, oz, oz, oz, oz, oz, oz, oz, oz, oz, oz, oz, oz, oz, oz, oz, oz, oz, oz, oz, oz, oz, oz, oz, oz, oz, oz, oz] (.int 0) := Arv.set Ar24 q24 S24 M24 H24 G24 (fits_nar_char _) W25 6 rfl (Nat.le_of_ble_eq_true rfl)
  have CH25 := CHr.trans CH23 (CHr.wr W25 (Safe.arv hZ0.alike V23 (by decide)) CH23.1)
  have Q25 : Keep h0 h25 [] := Q23.wr W25 (Or.inr sz_b11)
  have N25 := Fr.snoc X25 N23 g_b11
  obtain ⟨cl26, Ar26, q26, S26, M26, H26, G26⟩ := id V25
  obtain ⟨T27, h27, X27, e27, W27, st27⟩ := stC X25 hx hZ0 e25 Ar26 (j := (7 : Int32)) (inb_of S26 ⟨by decide, by decide⟩) (g := (mkF m 393 (own_F0 p1 p2 p3 p4 p5 b1 b6) [(.int 102), (.int 7), (.ref b11), (.ref b11)])) rfl rfl (hb hby at_393)
  have V27 : Arv Z h27 b11 k11 .char (47 : Int32) [(ow 98), (ow 101), (ow 115), (ow 116), (ow 45), (ow 101), (ow 102), (ow 102), oz, oz, oz, oz, oz, oz, oz, oz, oz, oz, oz, oz, oz, oz, oz, oz, oz, oz, oz, oz, oz, oz, oz, oz, oz, oz, oz, oz, oz, oz, oz, oz, oz, oz, oz, oz, oz, oz, oz] (.int 0) := Arv.set Ar26 q26 S26 M26 H26 G26 (fits_nar_char _) W27 7 rfl (Nat.le_of_ble_eq_true rfl)
  have CH27 := CHr.trans CH25 (CHr.wr W27 (Safe.arv hZ0.alike V25 (by decide)) CH25.1)
  have Q27 : Keep h0 h27 [] := Q25.wr W27 (Or.inr sz_b11)
  have N27 := Fr.snoc X27 N25 g_b11
  obtain ⟨cl28, Ar28, q28, S28, M28, H28, G28⟩ := id V27
  obtain ⟨T29, h29, X29, e29, W29, st29⟩ := stC X27 hx hZ0 e27 Ar28 (j := (8 : Int32)) (inb_of S28 ⟨by decide, by decide⟩) (g := (mkF m 399 (own_F0 p1 p2 p3 p4 p5 b1 b6) [(.int 111), (.int 8), (.ref b11), (.ref b11)])) rfl rfl (hb hby at_399)
  have V29 : Arv Z h29 b11 k11 .char (47 : Int32) [(ow 98), (ow 101), (ow 115), (ow 116), (ow 45), (ow 101), (ow 102), (ow 102), (ow 111), oz, oz, oz, oz, oz, oz, oz, oz, oz, oz, oz, oz, oz, oz, oz, oz, oz, oz, oz, oz, oz, oz, oz, oz, oz, oz, oz, oz, oz, oz, oz, oz, oz, oz, oz, oz, oz, oz] (.int 0) := Arv.set Ar28 q28 S28 M28 H28 G28 (fits_nar_char _) W29 8 rfl (Nat.le_of_ble_eq_true rfl)
  have CH29 := CHr.trans CH27 (CHr.wr W29 (Safe.arv hZ0.alike V27 (by decide)) CH27.1)
  have Q29 : Keep h0 h29 [] := Q27.wr W29 (Or.inr sz_b11)
  have N29 := Fr.snoc X29 N27 g_b11
  obtain ⟨cl30, Ar30, q30, S30, M30, H30, G30⟩ := id V29
  obtain ⟨T31, h31, X31, e31, W31, st31⟩ := stC X29 hx hZ0 e29 Ar30 (j := (9 : Int32)) (inb_of S30 ⟨by decide, by decide⟩) (g := (mkF m 405 (own_F0 p1 p2 p3 p4 p5 b1 b6) [(.int 114), (.int 9), (.ref b11), (.ref b11)])) rfl rfl (hb hby at_405)
  have V31 : Arv Z h31 b11 k11 .char (47 : Int32) [(ow 98), (ow 101), (ow 115), (ow 116), (ow 45), (ow 101), (ow 102), (ow 102), (ow 111), (ow 114), oz, oz, oz, oz, oz, oz, oz, oz, oz, oz, oz, oz, oz, oz, oz, oz, oz, oz, oz, oz, oz, oz, oz, oz, oz, oz, oz, oz, oz, oz, oz, oz, oz, oz, oz, oz, oz] (.int 0) := Arv.set Ar30 q30 S30 M30 H30 G30 (fits_nar_char _) W31 9 rfl (Nat.le_of_ble_eq_true rfl)
  have CH31 := CHr.trans CH29 (CHr.wr W31 (Safe.arv hZ0.alike V29 (by decide)) CH29.1)
  have Q31 : Keep h0 h31 [] := Q29.wr W31 (Or.inr sz_b11)
  have N31 := Fr.snoc X31 N29 g_b11
  obtain ⟨cl32, Ar32, q32, S32, M32, H32, G32⟩ := id V31
  obtain ⟨T33, h33, X33, e33, W33, st33⟩ := stC X31 hx hZ0 e31 Ar32 (j := (10 : Int32)) (inb_of S32 ⟨by decide, by decide⟩) (g := (mkF m 411 (own_F0 p1 p2 p3 p4 p5 b1 b6) [(.int 116), (.int 10), (.ref b11), (.ref b11)])) rfl rfl (hb hby at_411)
  have V33 : Arv Z h33 b11 k11 .char (47 : Int32) [(ow 98), (ow 101), (ow 115), (ow 116), (ow 45), (ow 101), (ow 102), (ow 102), (ow 111), (ow 114), (ow 116), oz, oz, oz, oz, oz, oz, oz, oz, oz, oz, oz, oz, oz, oz, oz, oz, oz, oz, oz, oz, oz, oz, oz, oz, oz, oz, oz, oz, oz, oz, oz, oz, oz, oz, oz, oz] (.int 0) := Arv.set Ar32 q32 S32 M32 H32 G32 (fits_nar_char _) W33 10 rfl (Nat.le_of_ble_eq_true rfl)
  have CH33 := CHr.trans CH31 (CHr.wr W33 (Safe.arv hZ0.alike V31 (by decide)) CH31.1)
  have Q33 : Keep h0 h33 [] := Q31.wr W33 (Or.inr sz_b11)
  have N33 := Fr.snoc X33 N31 g_b11
  obtain ⟨cl34, Ar34, q34, S34, M34, H34, G34⟩ := id V33
  obtain ⟨T35, h35, X35, e35, W35, st35⟩ := stC X33 hx hZ0 e33 Ar34 (j := (11 : Int32)) (inb_of S34 ⟨by decide, by decide⟩) (g := (mkF m 417 (own_F0 p1 p2 p3 p4 p5 b1 b6) [(.int 32), (.int 11), (.ref b11), (.ref b11)])) rfl rfl (hb hby at_417)
  have V35 : Arv Z h35 b11 k11 .char (47 : Int32) [(ow 98), (ow 101), (ow 115), (ow 116), (ow 45), (ow 101), (ow 102), (ow 102), (ow 111), (ow 114), (ow 116), (ow 32), oz, oz, oz, oz, oz, oz, oz, oz, oz, oz, oz, oz, oz, oz, oz, oz, oz, oz, oz, oz, oz, oz, oz, oz, oz, oz, oz, oz, oz, oz, oz, oz, oz, oz, oz] (.int 0) := Arv.set Ar34 q34 S34 M34 H34 G34 (fits_nar_char _) W35 11 rfl (Nat.le_of_ble_eq_true rfl)
  have CH35 := CHr.trans CH33 (CHr.wr W35 (Safe.arv hZ0.alike V33 (by decide)) CH33.1)
  have Q35 : Keep h0 h35 [] := Q33.wr W35 (Or.inr sz_b11)
  have N35 := Fr.snoc X35 N33 g_b11
  obtain ⟨cl36, Ar36, q36, S36, M36, H36, G36⟩ := id V35
  obtain ⟨T37, h37, X37, e37, W37, st37⟩ := stC X35 hx hZ0 e35 Ar36 (j := (12 : Int32)) (inb_of S36 ⟨by decide, by decide⟩) (g := (mkF m 423 (own_F0 p1 p2 p3 p4 p5 b1 b6) [(.int 109), (.int 12), (.ref b11), (.ref b11)])) rfl rfl (hb hby at_423)
  have V37 : Arv Z h37 b11 k11 .char (47 : Int32) [(ow 98), (ow 101), (ow 115), (ow 116), (ow 45), (ow 101), (ow 102), (ow 102), (ow 111), (ow 114), (ow 116), (ow 32), (ow 109), oz, oz, oz, oz, oz, oz, oz, oz, oz, oz, oz, oz, oz, oz, oz, oz, oz, oz, oz, oz, oz, oz, oz, oz, oz, oz, oz, oz, oz, oz, oz, oz, oz, oz] (.int 0) := Arv.set Ar36 q36 S36 M36 H36 G36 (fits_nar_char _) W37 12 rfl (Nat.le_of_ble_eq_true rfl)
  have CH37 := CHr.trans CH35 (CHr.wr W37 (Safe.arv hZ0.alike V35 (by decide)) CH35.1)
  have Q37 : Keep h0 h37 [] := Q35.wr W37 (Or.inr sz_b11)
  have N37 := Fr.snoc X37 N35 g_b11
  obtain ⟨cl38, Ar38, q38, S38, M38, H38, G38⟩ := id V37
  obtain ⟨T39, h39, X39, e39, W39, st39⟩ := stC X37 hx hZ0 e37 Ar38 (j := (13 : Int32)) (inb_of S38 ⟨by decide, by decide⟩) (g := (mkF m 429 (own_F0 p1 p2 p3 p4 p5 b1 b6) [(.int 101), (.int 13), (.ref b11), (.ref b11)])) rfl rfl (hb hby at_429)
  have V39 : Arv Z h39 b11 k11 .char (47 : Int32) [(ow 98), (ow 101), (ow 115), (ow 116), (ow 45), (ow 101), (ow 102), (ow 102), (ow 111), (ow 114), (ow 116), (ow 32), (ow 109), (ow 101), oz, oz, oz, oz, oz, oz, oz, oz, oz, oz, oz, oz, oz, oz, oz, oz, oz, oz, oz, oz, oz, oz, oz, oz, oz, oz, oz, oz, oz, oz, oz, oz, oz] (.int 0) := Arv.set Ar38 q38 S38 M38 H38 G38 (fits_nar_char _) W39 13 rfl (Nat.le_of_ble_eq_true rfl)
  have CH39 := CHr.trans CH37 (CHr.wr W39 (Safe.arv hZ0.alike V37 (by decide)) CH37.1)
  have Q39 : Keep h0 h39 [] := Q37.wr W39 (Or.inr sz_b11)
  have N39 := Fr.snoc X39 N37 g_b11
  obtain ⟨cl40, Ar40, q40, S40, M40, H40, G40⟩ := id V39
  obtain ⟨T41, h41, X41, e41, W41, st41⟩ := stC X39 hx hZ0 e39 Ar40 (j := (14 : Int32)) (inb_of S40 ⟨by decide, by decide⟩) (g := (mkF m 435 (own_F0 p1 p2 p3 p4 p5 b1 b6) [(.int 115), (.int 14), (.ref b11), (.ref b11)])) rfl rfl (hb hby at_435)
  have V41 : Arv Z h41 b11 k11 .char (47 : Int32) [(ow 98), (ow 101), (ow 115), (ow 116), (ow 45), (ow 101), (ow 102), (ow 102), (ow 111), (ow 114), (ow 116), (ow 32), (ow 109), (ow 101), (ow 115), oz, oz, oz, oz, oz, oz, oz, oz, oz, oz, oz, oz, oz, oz, oz, oz, oz, oz, oz, oz, oz, oz, oz, oz, oz, oz, oz, oz, oz, oz, oz, oz] (.int 0) := Arv.set Ar40 q40 S40 M40 H40 G40 (fits_nar_char _) W41 14 rfl (Nat.le_of_ble_eq_true rfl)
  have CH41 := CHr.trans CH39 (CHr.wr W41 (Safe.arv hZ0.alike V39 (by decide)) CH39.1)
  have Q41 : Keep h0 h41 [] := Q39.wr W41 (Or.inr sz_b11)
  have N41 := Fr.snoc X41 N39 g_b11
  obtain ⟨cl42, Ar42, q42, S42, M42, H42, G42⟩ := id V41
  obtain ⟨T43, h43, X43, e43, W43, st43⟩ := stC X41 hx hZ0 e41 Ar42 (j := (15 : Int32)) (inb_of S42 ⟨by decide, by decide⟩) (g := (mkF m 441 (own_F0 p1 p2 p3 p4 p5 b1 b6) [(.int 115), (.int 15), (.ref b11), (.ref b11)])) rfl rfl (hb hby at_441)
  have V43 : Arv Z h43 b11 k11 .char (47 : Int32) [(ow 98), (ow 101), (ow 115), (ow 116), (ow 45), (ow 101), (ow 102), (ow 102), (ow 111), (ow 114), (ow 116), (ow 32), (ow 109), (ow 101), (ow 115), (ow 115), oz, oz, oz, oz, oz, oz, oz, oz, oz, oz, oz, oz, oz, oz, oz, oz, oz, oz, oz, oz, oz, oz, oz, oz, oz, oz, oz, oz, oz, oz, oz] (.int 0) := Arv.set Ar42 q42 S42 M42 H42 G42 (fits_nar_char _) W43 15 rfl (Nat.le_of_ble_eq_true rfl)
  have CH43 := CHr.trans CH41 (CHr.wr W43 (Safe.arv hZ0.alike V41 (by decide)) CH41.1)
  have Q43 : Keep h0 h43 [] := Q41.wr W43 (Or.inr sz_b11)
  have N43 := Fr.snoc X43 N41 g_b11
  obtain ⟨cl44, Ar44, q44, S44, M44, H44, G44⟩ := id V43
  obtain ⟨T45, h45, X45, e45, W45, st45⟩ := stC X43 hx hZ0 e43 Ar44 (j := (16 : Int32)) (inb_of S44 ⟨by decide, by decide⟩) (g := (mkF m 447 (own_F0 p1 p2 p3 p4 p5 b1 b6) [(.int 97), (.int 16), (.ref b11), (.ref b11)])) rfl rfl (hb hby at_447)
  have V45 : Arv Z h45 b11 k11 .char (47 : Int32) [(ow 98), (ow 101), (ow 115), (ow 116), (ow 45), (ow 101), (ow 102), (ow 102), (ow 111), (ow 114), (ow 116), (ow 32), (ow 109), (ow 101), (ow 115), (ow 115), (ow 97), oz, oz, oz, oz, oz, oz, oz, oz, oz, oz, oz, oz, oz, oz, oz, oz, oz, oz, oz, oz, oz, oz, oz, oz, oz, oz, oz, oz, oz, oz] (.int 0) := Arv.set Ar44 q44 S44 M44 H44 G44 (fits_nar_char _) W45 16 rfl (Nat.le_of_ble_eq_true rfl)
  have CH45 := CHr.trans CH43 (CHr.wr W45 (Safe.arv hZ0.alike V43 (by decide)) CH43.1)
  have Q45 : Keep h0 h45 [] := Q43.wr W45 (Or.inr sz_b11)
  have N45 := Fr.snoc X45 N43 g_b11
  obtain ⟨cl46, Ar46, q46, S46, M46, H46, G46⟩ := id V45
  obtain ⟨T47, h47, X47, e47, W47, st47⟩ := stC X45 hx hZ0 e45 Ar46 (j := (17 : Int32)) (inb_of S46 ⟨by decide, by decide⟩) (g := (mkF m 453 (own_F0 p1 p2 p3 p4 p5 b1 b6) [(.int 103), (.int 17), (.ref b11), (.ref b11)])) rfl rfl (hb hby at_453)
  have V47 : Arv Z h47 b11 k11 .char (47 : Int32) [(ow 98), (ow 101), (ow 115), (ow 116), (ow 45), (ow 101), (ow 102), (ow 102), (ow 111), (ow 114), (ow 116), (ow 32), (ow 109), (ow 101), (ow 115), (ow 115), (ow 97), (ow 103), oz, oz, oz, oz, oz, oz, oz, oz, oz, oz, oz, oz, oz, oz, oz, oz, oz, oz, oz, oz, oz, oz, oz, oz, oz, oz, oz, oz, oz] (.int 0) := Arv.set Ar46 q46 S46 M46 H46 G46 (fits_nar_char _) W47 17 rfl (Nat.le_of_ble_eq_true rfl)
  have CH47 := CHr.trans CH45 (CHr.wr W47 (Safe.arv hZ0.alike V45 (by decide)) CH45.1)
  have Q47 : Keep h0 h47 [] := Q45.wr W47 (Or.inr sz_b11)
  have N47 := Fr.snoc X47 N45 g_b11
  obtain ⟨cl48, Ar48, q48, S48, M48, H48, G48⟩ := id V47
  obtain ⟨T49, h49, X49, e49, W49, st49⟩ := stC X47 hx hZ0 e47 Ar48 (j := (18 : Int32)) (inb_of S48 ⟨by decide, by decide⟩) (g := (mkF m 459 (own_F0 p1 p2 p3 p4 p5 b1 b6) [(.int 101), (.int 18), (.ref b11), (.ref b11)])) rfl rfl (hb hby at_459)
  have V49 : Arv Z h49 b11 k11 .char (47 : Int32) [(ow 98), (ow 101), (ow 115), (ow 116), (ow 45), (ow 101), (ow 102), (ow 102), (ow 111), (ow 114), (ow 116), (ow 32), (ow 109), (ow 101), (ow 115), (ow 115), (ow 97), (ow 103), (ow 101), oz, oz, oz, oz, oz, oz, oz, oz, oz, oz, oz, oz, oz, oz, oz, oz, oz, oz, oz, oz, oz, oz, oz, oz, oz, oz, oz, oz] (.int 0) := Arv.set Ar48 q48 S48 M48 H48 G48 (fits_nar_char _) W49 18 rfl (Nat.le_of_ble_eq_true rfl)
  have CH49 := CHr.trans CH47 (CHr.wr W49 (Safe.arv hZ0.alike V47 (by decide)) CH47.1)
  have Q49 : Keep h0 h49 [] := Q47.wr W49 (Or.inr sz_b11)
  have N49 := Fr.snoc X49 N47 g_b11
  obtain ⟨cl50, Ar50, q50, S50, M50, H50, G50⟩ := id V49
  obtain ⟨T51, h51, X51, e51, W51, st51⟩ := stC X49 hx hZ0 e49 Ar50 (j := (19 : Int32)) (inb_of S50 ⟨by decide, by decide⟩) (g := (mkF m 465 (own_F0 p1 p2 p3 p4 p5 b1 b6) [(.int 32), (.int 19), (.ref b11), (.ref b11)])) rfl rfl (hb hby at_465)
  have V51 : Arv Z h51 b11 k11 .char (47 : Int32) [(ow 98), (ow 101), (ow 115), (ow 116), (ow 45), (ow 101), (ow 102), (ow 102), (ow 111), (ow 114), (ow 116), (ow 32), (ow 109), (ow 101), (ow 115), (ow 115), (ow 97), (ow 103), (ow 101), (ow 32), oz, oz, oz, oz, oz, oz, oz, oz, oz, oz, oz, oz, oz, oz, oz, oz, oz, oz, oz, oz, oz, oz, oz, oz, oz, oz, oz] (.int 0) := Arv.set Ar50 q50 S50 M50 H50 G50 (fits_nar_char _) W51 19 rfl (Nat.le_of_ble_eq_true rfl)
  have CH51 := CHr.trans CH49 (CHr.wr W51 (Safe.arv hZ0.alike V49 (by decide)) CH49.1)
  have Q51 : Keep h0 h51 [] := Q49.wr W51 (Or.inr sz_b11)
  have N51 := Fr.snoc X51 N49 g_b11
  obtain ⟨cl52, Ar52, q52, S52, M52, H52, G52⟩ := id V51
  obtain ⟨T53, h53, X53, e53, W53, st53⟩ := stC X51 hx hZ0 e51 Ar52 (j := (20 : Int32)) (inb_of S52 ⟨by decide, by decide⟩) (g := (mkF m 471 (own_F0 p1 p2 p3 p4 p5 b1 b6) [(.int (own_ch p2)), (.int 20), (.ref b11), (.ref b11)])) rfl rfl (hb hby at_471)
  have V53 : Arv Z h53 b11 k11 .char (47 : Int32) [(ow 98), (ow 101), (ow 115), (ow 116), (ow 45), (ow 101), (ow 102), (ow 102), (ow 111), (ow 114), (ow 116), (ow 32), (ow 109), (ow 101), (ow 115), (ow 115), (ow 97), (ow 103), (ow 101), (ow 32), (.int (nar .char (own_ch p2))), oz, oz, oz, oz, oz, oz, oz, oz, oz, oz, oz, oz, oz, oz, oz, oz, oz, oz, oz, oz, oz, oz, oz, oz, oz, oz] (.int 0) := Arv.set Ar52 q52 S52 M52 H52 G52 (fits_nar_char _) W53 20 rfl (Nat.le_of_ble_eq_true rfl)
  have CH53 := CHr.trans CH51 (CHr.wr W53 (Safe.arv hZ0.alike V51 (by decide)) CH51.1)
  have Q53 : Keep h0 h53 [] := Q51.wr W53 (Or.inr sz_b11)
  have N53 := Fr.snoc X53 N51 g_b11
  obtain ⟨cl54, Ar54, q54, S54, M54, H54, G54⟩ := id V53
  obtain ⟨T55, h55, X55, e55, W55, st55⟩ := stC X53 hx hZ0 e53 Ar54 (j := (21 : Int32)) (inb_of S54 ⟨by decide, by decide⟩) (g := (mkF m 477 (own_F0 p1 p2 p3 p4 p5 b1 b6) [(.int (own_ch p3)), (.int 21), (.ref b11), (.ref b11)])) rfl rfl (hb hby at_477)
  have V55 : Arv Z h55 b11 k11 .char (47 : Int32) [(ow 98), (ow 101), (ow 115), (ow 116), (ow 45), (ow 101), (ow 102), (ow 102), (ow 111), (ow 114), (ow 116), (ow 32), (ow 109), (ow 101), (ow 115), (ow 115), (ow 97), (ow 103), (ow 101), (ow 32), (.int (nar .char (own_ch p2))), (.int (nar .char (own_ch p3))), oz, oz, oz, oz, oz, oz, oz, oz, oz, oz, oz, oz, oz, oz, oz, oz, oz, oz, oz, oz, oz, oz, oz, oz, oz] (.int 0) := Arv.set Ar54 q54 S54 M54 H54 G54 (fits_nar_char _) W55 21 rfl (Nat.le_of_ble_eq_true rfl)
  have CH55 := CHr.trans CH53 (CHr.wr W55 (Safe.arv hZ0.alike V53 (by decide)) CH53.1)
  have Q55 : Keep h0 h55 [] := Q53.wr W55 (Or.inr sz_b11)
  have N55 := Fr.snoc X55 N53 g_b11
  obtain ⟨cl56, Ar56, q56, S56, M56, H56, G56⟩ := id V55
  obtain ⟨T57, h57, X57, e57, W57, st57⟩ := stC X55 hx hZ0 e55 Ar56 (j := (22 : Int32)) (inb_of S56 ⟨by decide, by decide⟩) (g := (mkF m 483 (own_F0 p1 p2 p3 p4 p5 b1 b6) [(.int 32), (.int 22), (.ref b11), (.ref b11)])) rfl rfl (hb hby at_483)
  have V57 : Arv Z h57 b11 k11 .char (47 : Int32) [(ow 98), (ow 101), (ow 115), (ow 116), (ow 45), (ow 101), (ow 102), (ow 102), (ow 111), (ow 114), (ow 116), (ow 32), (ow 109), (ow 101), (ow 115), (ow 115), (ow 97), (ow 103), (ow 101), (ow 32), (.int (nar .char (own_ch p2))), (.int (nar .char (own_ch p3))), (ow 32), oz, oz, oz, oz, oz, oz, oz, oz, oz, oz, oz, oz, oz, oz, oz, oz, oz, oz, oz, oz, oz, oz, oz, oz] (.int 0) := Arv.set Ar56 q56 S56 M56 H56 G56 (fits_nar_char _) W57 22 rfl (Nat.le_of_ble_eq_true rfl)
  have CH57 := CHr.trans CH55 (CHr.wr W57 (Safe.arv hZ0.alike V55 (by decide)) CH55.1)
  have Q57 : Keep h0 h57 [] := Q55.wr W57 (Or.inr sz_b11)
  have N57 := Fr.snoc X57 N55 g_b11
  obtain ⟨cl58, Ar58, q58, S58, M58, H58, G58⟩ := id V57
  obtain ⟨T59, h59, X59, e59, W59, st59⟩ := stC X57 hx hZ0 e57 Ar58 (j := (23 : Int32)) (inb_of S58 ⟨by decide, by decide⟩) (g := (mkF m 489 (own_F0 p1 p2 p3 p4 p5 b1 b6) [(.int 111), (.int 23), (.ref b11), (.ref b11)])) rfl rfl (hb hby at_489)
  have V59 : Arv Z h59 b11 k11 .char (47 : Int32) [(ow 98), (ow 101), (ow 115), (ow 116), (ow 45), (ow 101), (ow 102), (ow 102), (ow 111), (ow 114), (ow 116), (ow 32), (ow 109), (ow 101), (ow 115), (ow 115), (ow 97), (ow 103), (ow 101), (ow 32), (.int (nar .char (own_ch p2))), (.int (nar .char (own_ch p3))), (ow 32), (ow 111), oz, oz, oz, oz, oz, oz, oz, oz, oz, oz, oz, oz, oz, oz, oz, oz, oz, oz, oz, oz, oz, oz, oz] (.int 0) := Arv.set Ar58 q58 S58 M58 H58 G58 (fits_nar_char _) W59 23 rfl (Nat.le_of_ble_eq_true rfl)
  have CH59 := CHr.trans CH57 (CHr.wr W59 (Safe.arv hZ0.alike V57 (by decide)) CH57.1)
  have Q59 : Keep h0 h59 [] := Q57.wr W59 (Or.inr sz_b11)
  have N59 := Fr.snoc X59 N57 g_b11
  obtain ⟨cl60, Ar60, q60, S60, M60, H60, G60⟩ := id V59
  obtain ⟨T61, h61, X61, e61, W61, st61⟩ := stC X59 hx hZ0 e59 Ar60 (j := (24 : Int32)) (inb_of S60 ⟨by decide, by decide⟩) (g := (mkF m 495 (own_F0 p1 p2 p3 p4 p5 b1 b6) [(.int 102), (.int 24), (.ref b11), (.ref b11)])) rfl rfl (hb hby at_495)
  have V61 : Arv Z h61 b11 k11 .char (47 : Int32) [(ow 98), (ow 101), (ow 115), (ow 116), (ow 45), (ow 101), (ow 102), (ow 102), (ow 111), (ow 114), (ow 116), (ow 32), (ow 109), (ow 101), (ow 115), (ow 115), (ow 97), (ow 103), (ow 101), (ow 32), (.int (nar .char (own_ch p2))), (.int (nar .char (own_ch p3))), (ow 32), (ow 111), (ow 102), oz, oz, oz, oz, oz, oz, oz, oz, oz, oz, oz, oz, oz, oz, oz, oz, oz, oz, oz, oz, oz, oz] (.int 0) := Arv.set Ar60 q60 S60 M60 H60 G60 (fits_nar_char _) W61 24 rfl (Nat.le_of_ble_eq_true rfl)
  have CH61 := CHr.trans CH59 (CHr.wr W61 (Safe.arv hZ0.alike V59 (by decide)) CH59.1)
  have Q61 : Keep h0 h61 [] := Q59.wr W61 (Or.inr sz_b11)
  have N61 := Fr.snoc X61 N59 g_b11
  obtain ⟨cl62, Ar62, q62, S62, M62, H62, G62⟩ := id V61
  obtain ⟨T63, h63, X63, e63, W63, st63⟩ := stC X61 hx hZ0 e61 Ar62 (j := (25 : Int32)) (inb_of S62 ⟨by decide, by decide⟩) (g := (mkF m 501 (own_F0 p1 p2 p3 p4 p5 b1 b6) [(.int 32), (.int 25), (.ref b11), (.ref b11)])) rfl rfl (hb hby at_501)
  have V63 : Arv Z h63 b11 k11 .char (47 : Int32) [(ow 98), (ow 101), (ow 115), (ow 116), (ow 45), (ow 101), (ow 102), (ow 102), (ow 111), (ow 114), (ow 116), (ow 32), (ow 109), (ow 101), (ow 115), (ow 115), (ow 97), (ow 103), (ow 101), (ow 32), (.int (nar .char (own_ch p2))), (.int (nar .char (own_ch p3))), (ow 32), (ow 111), (ow 102), (ow 32), oz, oz, oz, oz, oz, oz, oz, oz, oz, oz, oz, oz, oz, oz, oz, oz, oz, oz, oz, oz, oz] (.int 0) := Arv.set Ar62 q62 S62 M62 H62 G62 (fits_nar_char _) W63 25 rfl (Nat.le_of_ble_eq_true rfl)
  have CH63 := CHr.trans CH61 (CHr.wr W63 (Safe.arv hZ0.alike V61 (by decide)) CH61.1)
  have Q63 : Keep h0 h63 [] := Q61.wr W63 (Or.inr sz_b11)
  have N63 := Fr.snoc X63 N61 g_b11
  obtain ⟨cl64, Ar64, q64, S64, M64, H64, G64⟩ := id V63
  obtain ⟨T65, h65, X65, e65, W65, st65⟩ := stC X63 hx hZ0 e63 Ar64 (j := (26 : Int32)) (inb_of S64 ⟨by decide, by decide⟩) (g := (mkF m 507 (own_F0 p1 p2 p3 p4 p5 b1 b6) [(.int 103), (.int 26), (.ref b11), (.ref b11)])) rfl rfl (hb hby at_507)
  have V65 : Arv Z h65 b11 k11 .char (47 : Int32) [(ow 98), (ow 101), (ow 115), (ow 116), (ow 45), (ow 101), (ow 102), (ow 102), (ow 111), (ow 114), (ow 116), (ow 32), (ow 109), (ow 101), (ow 115), (ow 115), (ow 97), (ow 103), (ow 101), (ow 32), (.int (nar .char (own_ch p2))), (.int (nar .char (own_ch p3))), (ow 32), (ow 111), (ow 102), (ow 32), (ow 103), oz, oz, oz, oz, oz, oz, oz, oz, oz, oz, oz, oz, oz, oz, oz, oz, oz, oz, oz, oz] (.int 0) := Arv.set Ar64 q64 S64 M64 H64 G64 (fits_nar_char _) W65 26 rfl (Nat.le_of_ble_eq_true rfl)
  have CH65 := CHr.trans CH63 (CHr.wr W65 (Safe.arv hZ0.alike V63 (by decide)) CH63.1)
  have Q65 : Keep h0 h65 [] := Q63.wr W65 (Or.inr sz_b11)
  have N65 := Fr.snoc X65 N63 g_b11
  obtain ⟨cl66, Ar66, q66, S66, M66, H66, G66⟩ := id V65
  obtain ⟨T67, h67, X67, e67, W67, st67⟩ := stC X65 hx hZ0 e65 Ar66 (j := (27 : Int32)) (inb_of S66 ⟨by decide, by decide⟩) (g := (mkF m 513 (own_F0 p1 p2 p3 p4 p5 b1 b6) [(.int 108), (.int 27), (.ref b11), (.ref b11)])) rfl rfl (hb hby at_513)
  have V67 : Arv Z h67 b11 k11 .char (47 : Int32) [(ow 98), (ow 101), (ow 115), (ow 116), (ow 45), (ow 101), (ow 102), (ow 102), (ow 111), (ow 114), (ow 116), (ow 32), (ow 109), (ow 101), (ow 115), (ow 115), (ow 97), (ow 103), (ow 101), (ow 32), (.int (nar .char (own_ch p2))), (.int (nar .char (own_ch p3))), (ow 32), (ow 111), (ow 102), (ow 32), (ow 103), (ow 108), oz, oz, oz, oz, oz, oz, oz, oz, oz, oz, oz, oz, oz, oz, oz, oz, oz, oz, oz] (.int 0) := Arv.set Ar66 q66 S66 M66 H66 G66 (fits_nar_char _) W67 27 rfl (Nat.le_of_ble_eq_true rfl)
  have CH67 := CHr.trans CH65 (CHr.wr W67 (Safe.arv hZ0.alike V65 (by decide)) CH65.1)
  have Q67 : Keep h0 h67 [] := Q65.wr W67 (Or.inr sz_b11)
  have N67 := Fr.snoc X67 N65 g_b11
  obtain ⟨cl68, Ar68, q68, S68, M68, H68, G68⟩ := id V67
  obtain ⟨T69, h69, X69, e69, W69, st69⟩ := stC X67 hx hZ0 e67 Ar68 (j := (28 : Int32)) (inb_of S68 ⟨by decide, by decide⟩) (g := (mkF m 519 (own_F0 p1 p2 p3 p4 p5 b1 b6) [(.int 111), (.int 28), (.ref b11), (.ref b11)])) rfl rfl (hb hby at_519)
  have V69 : Arv Z h69 b11 k11 .char (47 : Int32) [(ow 98), (ow 101), (ow 115), (ow 116), (ow 45), (ow 101), (ow 102), (ow 102), (ow 111), (ow 114), (ow 116), (ow 32), (ow 109), (ow 101), (ow 115), (ow 115), (ow 97), (ow 103), (ow 101), (ow 32), (.int (nar .char (own_ch p2))), (.int (nar .char (own_ch p3))), (ow 32), (ow 111), (ow 102), (ow 32), (ow 103), (ow 108), (ow 111), oz, oz, oz, oz, oz, oz, oz, oz, oz, oz, oz, oz, oz, oz, oz, oz, oz, oz] (.int 0) := Arv.set Ar68 q68 S68 M68 H68 G68 (fits_nar_char _) W69 28 rfl (Nat.le_of_ble_eq_true rfl)
  have CH69 := CHr.trans CH67 (CHr.wr W69 (Safe.arv hZ0.alike V67 (by decide)) CH67.1)
  have Q69 : Keep h0 h69 [] := Q67.wr W69 (Or.inr sz_b11)
  have N69 := Fr.snoc X69 N67 g_b11
  obtain ⟨cl70, Ar70, q70, S70, M70, H70, G70⟩ := id V69
  obtain ⟨T71, h71, X71, e71, W71, st71⟩ := stC X69 hx hZ0 e69 Ar70 (j := (29 : Int32)) (inb_of S70 ⟨by decide, by decide⟩) (g := (mkF m 525 (own_F0 p1 p2 p3 p4 p5 b1 b6) [(.int 98), (.int 29), (.ref b11), (.ref b11)])) rfl rfl (hb hby at_525)
  have V71 : Arv Z h71 b11 k11 .char (47 : Int32) [(ow 98), (ow 101), (ow 115), (ow 116), (ow 45), (ow 101), (ow 102), (ow 102), (ow 111), (ow 114), (ow 116), (ow 32), (ow 109), (ow 101), (ow 115), (ow 115), (ow 97), (ow 103), (ow 101), (ow 32), (.int (nar .char (own_ch p2))), (.int (nar .char (own_ch p3))), (ow 32), (ow 111), (ow 102), (ow 32), (ow 103), (ow 108), (ow 111), (ow 98), oz, oz, oz, oz, oz, oz, oz, oz, oz, oz, oz, oz, oz, oz, oz, oz, oz] (.int 0) := Arv.set Ar70 q70 S70 M70 H70 G70 (fits_nar_char _) W71 29 rfl (Nat.le_of_ble_eq_true rfl)
  have CH71 := CHr.trans CH69 (CHr.wr W71 (Safe.arv hZ0.alike V69 (by decide)) CH69.1)
  have Q71 : Keep h0 h71 [] := Q69.wr W71 (Or.inr sz_b11)
  have N71 := Fr.snoc X71 N69 g_b11
  obtain ⟨cl72, Ar72, q72, S72, M72, H72, G72⟩ := id V71
  obtain ⟨T73, h73, X73, e73, W73, st73⟩ := stC X71 hx hZ0 e71 Ar72 (j := (30 : Int32)) (inb_of S72 ⟨by decide, by decide⟩) (g := (mkF m 531 (own_F0 p1 p2 p3 p4 p5 b1 b6) [(.int 97), (.int 30), (.ref b11), (.ref b11)])) rfl rfl (hb hby at_531)
  have V73 : Arv Z h73 b11 k11 .char (47 : Int32) [(ow 98), (ow 101), (ow 115), (ow 116), (ow 45), (ow 101), (ow 102), (ow 102), (ow 111), (ow 114), (ow 116), (ow 32), (ow 109), (ow 101), (ow 115), (ow 115), (ow 97), (ow 103), (ow 101), (ow 32), (.int (nar .char (own_ch p2))), (.int (nar .char (own_ch p3))), (ow 32), (ow 111), (ow 102), (ow 32), (ow 103), (ow 108), (ow 111), (ow 98), (ow 97), oz, oz, oz, oz, oz, oz, oz, oz, oz, oz, oz, oz, oz, oz, oz, oz] (.int 0) := Arv.set Ar72 q72 S72 M72 H72 G72 (fits_nar_char _) W73 30 rfl (Nat.le_of_ble_eq_true rfl)
  have CH73 := CHr.trans CH71 (CHr.wr W73 (Safe.arv hZ0.alike V71 (by decide)) CH71.1)
  have Q73 : Keep h0 h73 [] := Q71.wr W73 (Or.inr sz_b11)
  have N73 := Fr.snoc X73 N71 g_b11
  obtain ⟨cl74, Ar74, q74, S74, M74, H74, G74⟩ := id V73
  obtain ⟨T75, h75, X75, e75, W75, st75⟩ := stC X73 hx hZ0 e73 Ar74 (j := (31 : Int32)) (inb_of S74 ⟨by decide, by decide⟩) (g := (mkF m 537 (own_F0 p1 p2 p3 p4 p5 b1 b6) [(.int 108), (.int 31), (.ref b11), (.ref b11)])) rfl rfl (hb hby at_537)
  have V75 : Arv Z h75 b11 k11 .char (47 : Int32) [(ow 98), (ow 101), (ow 115), (ow 116), (ow 45), (ow 101), (ow 102), (ow 102), (ow 111), (ow 114), (ow 116), (ow 32), (ow 109), (ow 101), (ow 115), (ow 115), (ow 97), (ow 103), (ow 101), (ow 32), (.int (nar .char (own_ch p2))), (.int (nar .char (own_ch p3))), (ow 32), (ow 111), (ow 102), (ow 32), (ow 103), (ow 108), (ow 111), (ow 98), (ow 97), (ow 108), oz, oz, oz, oz, oz, oz, oz, oz, oz, oz, oz, oz, oz, oz, oz] (.int 0) := Arv.set Ar74 q74 S74 M74 H74 G74 (fits_nar_char _) W75 31 rfl (Nat.le_of_ble_eq_true rfl)
  have CH75 := CHr.trans CH73 (CHr.wr W75 (Safe.arv hZ0.alike V73 (by decide)) CH73.1)
  have Q75 : Keep h0 h75 [] := Q73.wr W75 (Or.inr sz_b11)
  have N75 := Fr.snoc X75 N73 g_b11
  obtain ⟨cl76, Ar76, q76, S76, M76, H76, G76⟩ := id V75
  obtain ⟨T77, h77, X77, e77, W77, st77⟩ := stC X75 hx hZ0 e75 Ar76 (j := (32 : Int32)) (inb_of S76 ⟨by decide, by decide⟩) (g := (mkF m 543 (own_F0 p1 p2 p3 p4 p5 b1 b6) [(.int 32), (.int 32), (.ref b11), (.ref b11)])) rfl rfl (hb hby at_543)
  have V77 : Arv Z h77 b11 k11 .char (47 : Int32) [(ow 98), (ow 101), (ow 115), (ow 116), (ow 45), (ow 101), (ow 102), (ow 102), (ow 111), (ow 114), (ow 116), (ow 32), (ow 109), (ow 101), (ow 115), (ow 115), (ow 97), (ow 103), (ow 101), (ow 32), (.int (nar .char (own_ch p2))), (.int (nar .char (own_ch p3))), (ow 32), (ow 111), (ow 102), (ow 32), (ow 103), (ow 108), (ow 111), (ow 98), (ow 97), (ow 108), (ow 32), oz, oz, oz, oz, oz, oz, oz, oz, oz, oz, oz, oz, oz, oz] (.int 0) := Arv.set Ar76 q76 S76 M76 H76 G76 (fits_nar_char _) W77 32 rfl (Nat.le_of_ble_eq_true rfl)
  have CH77 := CHr.trans CH75 (CHr.wr W77 (Safe.arv hZ0.alike V75 (by decide)) CH75.1)
  have Q77 : Keep h0 h77 [] := Q75.wr W77 (Or.inr sz_b11)
  have N77 := Fr.snoc X77 N75 g_b11
  obtain ⟨cl78, Ar78, q78, S78, M78, H78, G78⟩ := id V77
  obtain ⟨T79, h79, X79, e79, W79, st79⟩ := stC X77 hx hZ0 e77 Ar78 (j := (33 : Int32)) (inb_of S78 ⟨by decide, by decide⟩) (g := (mkF m 549 (own_F0 p1 p2 p3 p4 p5 b1 b6) [(.int 116), (.int 33), (.ref b11), (.ref b11)])) rfl rfl (hb hby at_549)
  have V79 : Arv Z h79 b11 k11 .char (47 : Int32) [(ow 98), (ow 101), (ow 115), (ow 116), (ow 45), (ow 101), (ow 102), (ow 102), (ow 111), (ow 114), (ow 116), (ow 32), (ow 109), (ow 101), (ow 115), (ow 115), (ow 97), (ow 103), (ow 101), (ow 32), (.int (nar .char (own_ch p2))), (.int (nar .char (own_ch p3))), (ow 32), (ow 111), (ow 102), (ow 32), (ow 103), (ow 108), (ow 111), (ow 98), (ow 97), (ow 108), (ow 32), (ow 116), oz, oz, oz, oz, oz, oz, oz, oz, oz, oz, oz, oz, oz] (.int 0) := Arv.set Ar78 q78 S78 M78 H78 G78 (fits_nar_char _) W79 33 rfl (Nat.le_of_ble_eq_true rfl)
  have CH79 := CHr.trans CH77 (CHr.wr W79 (Safe.arv hZ0.alike V77 (by decide)) CH77.1)
  have Q79 : Keep h0 h79 [] := Q77.wr W79 (Or.inr sz_b11)
  have N79 := Fr.snoc X79 N77 g_b11
  obtain ⟨cl80, Ar80, q80, S80, M80, H80, G80⟩ := id V79
  obtain ⟨T81, h81, X81, e81, W81, st81⟩ := stC X79 hx hZ0 e79 Ar80 (j := (34 : Int32)) (inb_of S80 ⟨by decide, by decide⟩) (g := (mkF m 555 (own_F0 p1 p2 p3 p4 p5 b1 b6) [(.int 114), (.int 34), (.ref b11), (.ref b11)])) rfl rfl (hb hby at_555)
  have V81 : Arv Z h81 b11 k11 .char (47 : Int32) [(ow 98), (ow 101), (ow 115), (ow 116), (ow 45), (ow 101), (ow 102), (ow 102), (ow 111), (ow 114), (ow 116), (ow 32), (ow 109), (ow 101), (ow 115), (ow 115), (ow 97), (ow 103), (ow 101), (ow 32), (.int (nar .char (own_ch p2))), (.int (nar .char (own_ch p3))), (ow 32), (ow 111), (ow 102), (ow 32), (ow 103), (ow 108), (ow 111), (ow 98), (ow 97), (ow 108), (ow 32), (ow 116), (ow 114), oz, oz, oz, oz, oz, oz, oz, oz, oz, oz, oz, oz] (.int 0) := Arv.set Ar80 q80 S80 M80 H80 G80 (fits_nar_char _) W81 34 rfl (Nat.le_of_ble_eq_true rfl)
  have CH81 := CHr.trans CH79 (CHr.wr W81 (Safe.arv hZ0.alike V79 (by decide)) CH79.1)
  have Q81 : Keep h0 h81 [] := Q79.wr W81 (Or.inr sz_b11)
  have N81 := Fr.snoc X81 N79 g_b11
  obtain ⟨cl82, Ar82, q82, S82, M82, H82, G82⟩ := id V81
  obtain ⟨T83, h83, X83, e83, W83, st83⟩ := stC X81 hx hZ0 e81 Ar82 (j := (35 : Int32)) (inb_of S82 ⟨by decide, by decide⟩) (g := (mkF m 561 (own_F0 p1 p2 p3 p4 p5 b1 b6) [(.int 97), (.int 35), (.ref b11), (.ref b11)])) rfl rfl (hb hby at_561)
  have V83 : Arv Z h83 b11 k11 .char (47 : Int32) [(ow 98), (ow 101), (ow 115), (ow 116), (ow 45), (ow 101), (ow 102), (ow 102), (ow 111), (ow 114), (ow 116), (ow 32), (ow 109), (ow 101), (ow 115), (ow 115), (ow 97), (ow 103), (ow 101), (ow 32), (.int (nar .char (own_ch p2))), (.int (nar .char (own_ch p3))), (ow 32), (ow 111), (ow 102), (ow 32), (ow 103), (ow 108), (ow 111), (ow 98), (ow 97), (ow 108), (ow 32), (ow 116), (ow 114), (ow 97), oz, oz, oz, oz, oz, oz, oz, oz, oz, oz, oz] (.int 0) := Arv.set Ar82 q82 S82 M82 H82 G82 (fits_nar_char _) W83 35 rfl (Nat.le_of_ble_eq_true rfl)
  have CH83 := CHr.trans CH81 (CHr.wr W83 (Safe.arv hZ0.alike V81 (by decide)) CH81.1)
  have Q83 : Keep h0 h83 [] := Q81.wr W83 (Or.inr sz_b11)
  have N83 := Fr.snoc X83 N81 g_b11
  obtain ⟨cl84, Ar84, q84, S84, M84, H84, G84⟩ := id V83
  obtain ⟨T85, h85, X85, e85, W85, st85⟩ := stC X83 hx hZ0 e83 Ar84 (j := (36 : Int32)) (inb_of S84 ⟨by decide, by decide⟩) (g := (mkF m 567 (own_F0 p1 p2 p3 p4 p5 b1 b6) [(.int 110), (.int 36), (.ref b11), (.ref b11)])) rfl rfl (hb hby at_567)
  have V85 : Arv Z h85 b11 k11 .char (47 : Int32) [(ow 98), (ow 101), (ow 115), (ow 116), (ow 45), (ow 101), (ow 102), (ow 102), (ow 111), (ow 114), (ow 116), (ow 32), (ow 109), (ow 101), (ow 115), (ow 115), (ow 97), (ow 103), (ow 101), (ow 32), (.int (nar .char (own_ch p2))), (.int (nar .char (own_ch p3))), (ow 32), (ow 111), (ow 102), (ow 32), (ow 103), (ow 108), (ow 111), (ow 98), (ow 97), (ow 108), (ow 32), (ow 116), (ow 114), (ow 97), (ow 110), oz, oz, oz, oz, oz, oz, oz, oz, oz, oz] (.int 0) := Arv.set Ar84 q84 S84 M84 H84 G84 (fits_nar_char _) W85 36 rfl (Nat.le_of_ble_eq_true rfl)
  have CH85 := CHr.trans CH83 (CHr.wr W85 (Safe.arv hZ0.alike V83 (by decide)) CH83.1)
  have Q85 : Keep h0 h85 [] := Q83.wr W85 (Or.inr sz_b11)
  have N85 := Fr.snoc X85 N83 g_b11
  obtain ⟨cl86, Ar86, q86, S86, M86, H86, G86⟩ := id V85
  obtain ⟨T87, h87, X87, e87, W87, st87⟩ := stC X85 hx hZ0 e85 Ar86 (j := (37 : Int32)) (inb_of S86 ⟨by decide, by decide⟩) (g := (mkF m 573 (own_F0 p1 p2 p3 p4 p5 b1 b6) [(.int 115), (.int 37), (.ref b11), (.ref b11)])) rfl rfl (hb hby at_573)
  have V87 : Arv Z h87 b11 k11 .char (47 : Int32) [(ow 98), (ow 101), (ow 115), (ow 116), (ow 45), (ow 101), (ow 102), (ow 102), (ow 111), (ow 114), (ow 116), (ow 32), (ow 109), (ow 101), (ow 115), (ow 115), (ow 97), (ow 103), (ow 101), (ow 32), (.int (nar .char (own_ch p2))), (.int (nar .char (own_ch p3))), (ow 32), (ow 111), (ow 102), (ow 32), (ow 103), (ow 108), (ow 111), (ow 98), (ow 97), (ow 108), (ow 32), (ow 116), (ow 114), (ow 97), (ow 110), (ow 115), oz, oz, oz, oz, oz, oz, oz, oz, oz] (.int 0) := Arv.set Ar86 q86 S86 M86 H86 G86 (fits_nar_char _) W87 37 rfl (Nat.le_of_ble_eq_true rfl)
  have CH87 := CHr.trans CH85 (CHr.wr W87 (Safe.arv hZ0.alike V85 (by decide)) CH85.1)
  have Q87 : Keep h0 h87 [] := Q85.wr W87 (Or.inr sz_b11)
  have N87 := Fr.snoc X87 N85 g_b11
  obtain ⟨cl88, Ar88, q88, S88, M88, H88, G88⟩ := id V87
  obtain ⟨T89, h89, X89, e89, W89, st89⟩ := stC X87 hx hZ0 e87 Ar88 (j := (38 : Int32)) (inb_of S88 ⟨by decide, by decide⟩) (g := (mkF m 579 (own_F0 p1 p2 p3 p4 p5 b1 b6) [(.int 97), (.int 38), (.ref b11), (.ref b11)])) rfl rfl (hb hby at_579)
  have V89 : Arv Z h89 b11 k11 .char (47 : Int32) [(ow 98), (ow 101), (ow 115), (ow 116), (ow 45), (ow 101), (ow 102), (ow 102), (ow 111), (ow 114), (ow 116), (ow 32), (ow 109), (ow 101), (ow 115), (ow 115), (ow 97), (ow 103), (ow 101), (ow 32), (.int (nar .char (own_ch p2))), (.int (nar .char (own_ch p3))), (ow 32), (ow 111), (ow 102), (ow 32), (ow 103), (ow 108), (ow 111), (ow 98), (ow 97), (ow 108), (ow 32), (ow 116), (ow 114), (ow 97), (ow 110), (ow 115), (ow 97), oz, oz, oz, oz, oz, oz, oz, oz] (.int 0) := Arv.set Ar88 q88 S88 M88 H88 G88 (fits_nar_char _) W89 38 rfl (Nat.le_of_ble_eq_true rfl)
  have CH89 := CHr.trans CH87 (CHr.wr W89 (Safe.arv hZ0.alike V87 (by decide)) CH87.1)
  have Q89 : Keep h0 h89 [] := Q87.wr W89 (Or.inr sz_b11)
  have N89 := Fr.snoc X89 N87 g_b11
  obtain ⟨cl90, Ar90, q90, S90, M90, H90, G90⟩ := id V89
  obtain ⟨T91, h91, X91, e91, W91, st91⟩ := stC X89 hx hZ0 e89 Ar90 (j := (39 : Int32)) (inb_of S90 ⟨by decide, by decide⟩) (g := (mkF m 585 (own_F0 p1 p2 p3 p4 p5 b1 b6) [(.int 99), (.int 39), (.ref b11), (.ref b11)])) rfl rfl (hb hby at_585)
  have V91 : Arv Z h91 b11 k11 .char (47 : Int32) [(ow 98), (ow 101), (ow 115), (ow 116), (ow 45), (ow 101), (ow 102), (ow 102), (ow 111), (ow 114), (ow 116), (ow 32), (ow 109), (ow 101), (ow 115), (ow 115), (ow 97), (ow 103), (ow 101), (ow 32), (.int (nar .char (own_ch p2))), (.int (nar .char (own_ch p3))), (ow 32), (ow 111), (ow 102), (ow 32), (ow 103), (ow 108), (ow 111), (ow 98), (ow 97), (ow 108), (ow 32), (ow 116), (ow 114), (ow 97), (ow 110), (ow 115), (ow 97), (ow 99), oz, oz, oz, oz, oz, oz, oz] (.int 0) := Arv.set Ar90 q90 S90 M90 H90 G90 (fits_nar_char _) W91 39 rfl (Nat.le_of_ble_eq_true rfl)
  have CH91 := CHr.trans CH89 (CHr.wr W91 (Safe.arv hZ0.alike V89 (by decide)) CH89.1)
  have Q91 : Keep h0 h91 [] := Q89.wr W91 (Or.inr sz_b11)
  have N91 := Fr.snoc X91 N89 g_b11
  obtain ⟨cl92, Ar92, q92, S92, M92, H92, G92⟩ := id V91
  obtain ⟨T93, h93, X93, e93, W93, st93⟩ := stC X91 hx hZ0 e91 Ar92 (j := (40 : Int32)) (inb_of S92 ⟨by decide, by decide⟩) (g := (mkF m 591 (own_F0 p1 p2 p3 p4 p5 b1 b6) [(.int 116), (.int 40), (.ref b11), (.ref b11)])) rfl rfl (hb hby at_591)
  have V93 : Arv Z h93 b11 k11 .char (47 : Int32) [(ow 98), (ow 101), (ow 115), (ow 116), (ow 45), (ow 101), (ow 102), (ow 102), (ow 111), (ow 114), (ow 116), (ow 32), (ow 109), (ow 101), (ow 115), (ow 115), (ow 97), (ow 103), (ow 101), (ow 32), (.int (nar .char (own_ch p2))), (.int (nar .char (own_ch p3))), (ow 32), (ow 111), (ow 102), (ow 32), (ow 103), (ow 108), (ow 111), (ow 98), (ow 97), (ow 108), (ow 32), (ow 116), (ow 114), (ow 97), (ow 110), (ow 115), (ow 97), (ow 99), (ow 116), oz, oz, oz, oz, oz, oz] (.int 0) := Arv.set Ar92 q92 S92 M92 H92 G92 (fits_nar_char _) W93 40 rfl (Nat.le_of_ble_eq_true rfl)
  have CH93 := CHr.trans CH91 (CHr.wr W93 (Safe.arv hZ0.alike V91 (by decide)) CH91.1)
  have Q93 : Keep h0 h93 [] := Q91.wr W93 (Or.inr sz_b11)
  have N93 := Fr.snoc X93 N91 g_b11
  obtain ⟨cl94, Ar94, q94, S94, M94, H94, G94⟩ := id V93
  obtain ⟨T95, h95, X95, e95, W95, st95⟩ := stC X93 hx hZ0 e93 Ar94 (j := (41 : Int32)) (inb_of S94 ⟨by decide, by decide⟩) (g := (mkF m 597 (own_F0 p1 p2 p3 p4 p5 b1 b6) [(.int 105), (.int 41), (.ref b11), (.ref b11)])) rfl rfl (hb hby at_597)
  have V95 : Arv Z h95 b11 k11 .char (47 : Int32) [(ow 98), (ow 101), (ow 115), (ow 116), (ow 45), (ow 101), (ow 102), (ow 102), (ow 111), (ow 114), (ow 116), (ow 32), (ow 109), (ow 101), (ow 115), (ow 115), (ow 97), (ow 103), (ow 101), (ow 32), (.int (nar .char (own_ch p2))), (.int (nar .char (own_ch p3))), (ow 32), (ow 111), (ow 102), (ow 32), (ow 103), (ow 108), (ow 111), (ow 98), (ow 97), (ow 108), (ow 32), (ow 116), (ow 114), (ow 97), (ow 110), (ow 115), (ow 97), (ow 99), (ow 116), (ow 105), oz, oz, oz, oz, oz] (.int 0) := Arv.set Ar94 q94 S94 M94 H94 G94 (fits_nar_char _) W95 41 rfl (Nat.le_of_ble_eq_true rfl)
  have CH95 := CHr.trans CH93 (CHr.wr W95 (Safe.arv hZ0.alike V93 (by decide)) CH93.1)
  have Q95 : Keep h0 h95 [] := Q93.wr W95 (Or.inr sz_b11)
  have N95 := Fr.snoc X95 N93 g_b11
  obtain ⟨cl96, Ar96, q96, S96, M96, H96, G96⟩ := id V95
  obtain ⟨T97, h97, X97, e97, W97, st97⟩ := stC X95 hx hZ0 e95 Ar96 (j := (42 : Int32)) (inb_of S96 ⟨by decide, by decide⟩) (g := (mkF m 603 (own_F0 p1 p2 p3 p4 p5 b1 b6) [(.int 111), (.int 42), (.ref b11), (.ref b11)])) rfl rfl (hb hby at_603)
  have V97 : Arv Z h97 b11 k11 .char (47 : Int32) [(ow 98), (ow 101), (ow 115), (ow 116), (ow 45), (ow 101), (ow 102), (ow 102), (ow 111), (ow 114), (ow 116), (ow 32), (ow 109), (ow 101), (ow 115), (ow 115), (ow 97), (ow 103), (ow 101), (ow 32), (.int (nar .char (own_ch p2))), (.int (nar .char (own_ch p3))), (ow 32), (ow 111), (ow 102), (ow 32), (ow 103), (ow 108), (ow 111), (ow 98), (ow 97), (ow 108), (ow 32), (ow 116), (ow 114), (ow 97), (ow 110), (ow 115), (ow 97), (ow 99), (ow 116), (ow 105), (ow 111), oz, oz, oz, oz] (.int 0) := Arv.set Ar96 q96 S96 M96 H96 G96 (fits_nar_char _) W97 42 rfl (Nat.le_of_ble_eq_true rfl)
  have CH97 := CHr.trans CH95 (CHr.wr W97 (Safe.arv hZ0.alike V95 (by decide)) CH95.1)
  have Q97 : Keep h0 h97 [] := Q95.wr W97 (Or.inr sz_b11)
  have N97 := Fr.snoc X97 N95 g_b11
  obtain ⟨cl98, Ar98, q98, S98, M98, H98, G98⟩ := id V97
  obtain ⟨T99, h99, X99, e99, W99, st99⟩ := stC X97 hx hZ0 e97 Ar98 (j := (43 : Int32)) (inb_of S98 ⟨by decide, by decide⟩) (g := (mkF m 609 (own_F0 p1 p2 p3 p4 p5 b1 b6) [(.int 110), (.int 43), (.ref b11), (.ref b11)])) rfl rfl (hb hby at_609)
  have V99 : Arv Z h99 b11 k11 .char (47 : Int32) [(ow 98), (ow 101), (ow 115), (ow 116), (ow 45), (ow 101), (ow 102), (ow 102), (ow 111), (ow 114), (ow 116), (ow 32), (ow 109), (ow 101), (ow 115), (ow 115), (ow 97), (ow 103), (ow 101), (ow 32), (.int (nar .char (own_ch p2))), (.int (nar .char (own_ch p3))), (ow 32), (ow 111), (ow 102), (ow 32), (ow 103), (ow 108), (ow 111), (ow 98), (ow 97), (ow 108), (ow 32), (ow 116), (ow 114), (ow 97), (ow 110), (ow 115), (ow 97), (ow 99), (ow 116), (ow 105), (ow 111), (ow 110), oz, oz, oz] (.int 0) := Arv.set Ar98 q98 S98 M98 H98 G98 (fits_nar_char _) W99 43 rfl (Nat.le_of_ble_eq_true rfl)
  have CH99 := CHr.trans CH97 (CHr.wr W99 (Safe.arv hZ0.alike V97 (by decide)) CH97.1)
  have Q99 : Keep h0 h99 [] := Q97.wr W99 (Or.inr sz_b11)
  have N99 := Fr.snoc X99 N97 g_b11
  obtain ⟨cl100, Ar100, q100, S100, M100, H100, G100⟩ := id V99
  obtain ⟨T101, h101, X101, e101, W101, st101⟩ := stC X99 hx hZ0 e99 Ar100 (j := (44 : Int32)) (inb_of S100 ⟨by decide, by decide⟩) (g := (mkF m 615 (own_F0 p1 p2 p3 p4 p5 b1 b6) [(.int 32), (.int 44), (.ref b11), (.ref b11)])) rfl rfl (hb hby at_615)
  have V101 : Arv Z h101 b11 k11 .char (47 : Int32) [(ow 98), (ow 101), (ow 115), (ow 116), (ow 45), (ow 101), (ow 102), (ow 102), (ow 111), (ow 114), (ow 116), (ow 32), (ow 109), (ow 101), (ow 115), (ow 115), (ow 97), (ow 103), (ow 101), (ow 32), (.int (nar .char (own_ch p2))), (.int (nar .char (own_ch p3))), (ow 32), (ow 111), (ow 102), (ow 32), (ow 103), (ow 108), (ow 111), (ow 98), (ow 97), (ow 108), (ow 32), (ow 116), (ow 114), (ow 97), (ow 110), (ow 115), (ow 97), (ow 99), (ow 116), (ow 105), (ow 111), (ow 110), (ow 32), (.int 0), (.int 0)] (.int 0) := Arv.set Ar100 q100 S100 M100 H100 G100 (fits_nar_char _) W101 44 rfl (Nat.le_of_ble_eq_true rfl)
  have CH101 := CHr.trans CH99 (CHr.wr W101 (Safe.arv hZ0.alike V99 (by decide)) CH99.1)
  have Q101 : Keep h0 h101 [] := Q99.wr W101 (Or.inr sz_b11)
  have N101 := Fr.snoc X101 N99 g_b11
  obtain ⟨cl102, Ar102, q102, S102, M102, H102, G102⟩ := id V101
  obtain ⟨T103, h103, X103, e103, W103, st103⟩ := stC X101 hx hZ0 e101 Ar102 (j := (45 : Int32)) (inb_of S102 ⟨by decide, by decide⟩) (g := (mkF m 621 (own_F0 p1 p2 p3 p4 p5 b1 b6) [(.int (own_ch p4)), (.int 45), (.ref b11), (.ref b11)])) rfl rfl (hb hby at_621)
  have V103 : Arv Z h103 b11 k11 .char (47 : Int32) [(ow 98), (ow 101), (ow 115), (ow 116), (ow 45), (ow 101), (ow 102), (ow 102), (ow 111), (ow 114), (ow 116), (ow 32), (ow 109), (ow 101), (ow 115), (ow 115), (ow 97), (ow 103), (ow 101), (ow 32), (.int (nar .char (own_ch p2))), (.int (nar .char (own_ch p3))), (ow 32), (ow 111), (ow 102), (ow 32), (ow 103), (ow 108), (ow 111), (ow 98), (ow 97), (ow 108), (ow 32), (ow 116), (ow 114), (ow 97), (ow 110), (ow 115), (ow 97), (ow 99), (ow 116), (ow 105), (ow 111), (ow 110), (ow 32), (.int (nar .char (own_ch p4))), (.int 0)] (.int 0) := Arv.set Ar102 q102 S102 M102 H102 G102 (fits_nar_char _) W103 45 rfl (Nat.le_of_ble_eq_true rfl)
  have CH103 := CHr.trans CH101 (CHr.wr W103 (Safe.arv hZ0.alike V101 (by decide)) CH101.1)
  have Q103 : Keep h0 h103 [] := Q101.wr W103 (Or.inr sz_b11)
  have N103 := Fr.snoc X103 N101 g_b11
  obtain ⟨cl104, Ar104, q104, S104, M104, H104, G104⟩ := id V103
  obtain ⟨T105, h105, X105, e105, W105, st105⟩ := stC X103 hx hZ0 e103 Ar104 (j := (46 : Int32)) (inb_of S104 ⟨by decide, by decide⟩) (g := (mkF m 627 (own_F0 p1 p2 p3 p4 p5 b1 b6) [(.int (own_ch p5)), (.int 46), (.ref b11), (.ref b11)])) rfl rfl (hb hby at_627)
  have V105 : Arv Z h105 b11 k11 .char (47 : Int32) [(ow 98), (ow 101), (ow 115), (ow 116), (ow 45), (ow 101), (ow 102), (ow 102), (ow 111), (ow 114), (ow 116), (ow 32), (ow 109), (ow 101), (ow 115), (ow 115), (ow 97), (ow 103), (ow 101), (ow 32), (.int (nar .char (own_ch p2))), (.int (nar .char (own_ch p3))), (ow 32), (ow 111), (ow 102), (ow 32), (ow 103), (ow 108), (ow 111), (ow 98), (ow 97), (ow 108), (ow 32), (ow 116), (ow 114), (ow 97), (ow 110), (ow 115), (ow 97), (ow 99), (ow 116), (ow 105), (ow 111), (ow 110), (ow 32), (.int (nar .char (own_ch p4))), (.int (nar .char (own_ch p5)))] (.int 0) := Arv.set Ar104 q104 S104 M104 H104 G104 (fits_nar_char _) W105 46 rfl (Nat.le_of_ble_eq_true rfl)
  have CH105 := CHr.trans CH103 (CHr.wr W105 (Safe.arv hZ0.alike V103 (by decide)) CH103.1)
  have Q105 : Keep h0 h105 [] := Q103.wr W105 (Or.inr sz_b11)
  have N105 := Fr.snoc X105 N103 g_b11
  have ck630_0 : Sta Z h105 "java/lang/String" "COMPACT_STRINGS" "Z" (.int zc) := ((((((((((((((((((((((((((((((((((((((((((((((((((((((S_COMPACT_STRINGS_.ext E1).wr W3).wr W5).ext E6).wr W8).wr W10).ext E11).wr W13).wr W15).wr W17).wr W19).wr W21).wr W23).wr W25).wr W27).wr W29).wr W31).wr W33).wr W35).wr W37).wr W39).wr W41).wr W43).wr W45).wr W47).wr W49).wr W51).wr W53).wr W55).wr W57).wr W59).wr W61).wr W63).wr W65).wr W67).wr W69).wr W71).wr W73).wr W75).wr W77).wr W79).wr W81).wr W83).wr W85).wr W87).wr W89).wr W91).wr W93).wr W95).wr W97).wr W99).wr W101).wr W103).wr W105)
  have ck630_2 : Sta Z h105 "java/nio/charset/StandardCharsets" "UTF_8" "Ljava/nio/charset/Charset;" (.ref cu) := ((((((((((((((((((((((((((((((((((((((((((((((((((((((S_UTF_8_.ext E1).wr W3).wr W5).ext E6).wr W8).wr W10).ext E11).wr W13).wr W15).wr W17).wr W19).wr W21).wr W23).wr W25).wr W27).wr W29).wr W31).wr W33).wr W35).wr W37).wr W39).wr W41).wr W43).wr W45).wr W47).wr W49).wr W51).wr W53).wr W55).wr W57).wr W59).wr W61).wr W63).wr W65).wr W67).wr W69).wr W71).wr W73).wr W75).wr W77).wr W79).wr W81).wr W83).wr W85).wr W87).wr W89).wr W91).wr W93).wr W95).wr W97).wr W99).wr W101).wr W103).wr W105)
  have ck630_3 : Sta Z h105 "sun/nio/cs/UTF_8" "INSTANCE" "Lsun/nio/cs/UTF_8;" (.ref cu) := ((((((((((((((((((((((((((((((((((((((((((((((((((((((S_INSTANCE_.ext E1).wr W3).wr W5).ext E6).wr W8).wr W10).ext E11).wr W13).wr W15).wr W17).wr W19).wr W21).wr W23).wr W25).wr W27).wr W29).wr W31).wr W33).wr W35).wr W37).wr W39).wr W41).wr W43).wr W45).wr W47).wr W49).wr W51).wr W53).wr W55).wr W57).wr W59).wr W61).wr W63).wr W65).wr W67).wr W69).wr W71).wr W73).wr W75).wr W77).wr W79).wr W81).wr W83).wr W85).wr W87).wr W89).wr W91).wr W93).wr W95).wr W97).wr W99).wr W101).wr W103).wr W105)
  have nq0 : b1 ≠ b6 := (Nat.ne_of_lt (Nat.lt_of_lt_of_le V5.lt (Nat.le_of_eq gg6.symm)))
  have nq1 : b1 ≠ b11 := (Nat.ne_of_lt (Nat.lt_of_lt_of_le (((V5.ext E6).other W8 nq0).other W10 nq0).lt (Nat.le_of_eq gg11.symm)))
  have ck630_7 : Arv Z h105 b1 k1 .char (2 : Int32) [(.int (nar .char (own_ch p2))), (.int (nar .char (own_ch p3)))] (.int 0) := (((((((((((((((((((((((((((((((((((((((((((((((((((V5.ext E6).other W8 nq0).other W10 nq0).ext E11).other W13 nq1).other W15 nq1).other W17 nq1).other W19 nq1).other W21 nq1).other W23 nq1).other W25 nq1).other W27 nq1).other W29 nq1).other W31 nq1).other W33 nq1).other W35 nq1).other W37 nq1).other W39 nq1).other W41 nq1).other W43 nq1).other W45 nq1).other W47 nq1).other W49 nq1).other W51 nq1).other W53 nq1).other W55 nq1).other W57 nq1).other W59 nq1).other W61 nq1).other W63 nq1).other W65 nq1).other W67 nq1).other W69 nq1).other W71 nq1).other W73 nq1).other W75 nq1).other W77 nq1).other W79 nq1).other W81 nq1).other W83 nq1).other W85 nq1).other W87 nq1).other W89 nq1).other W91 nq1).other W93 nq1).other W95 nq1).other W97 nq1).other W99 nq1).other W101 nq1).other W103 nq1).other W105 nq1)
  have nq2 : b6 ≠ b11 := (Nat.ne_of_lt (Nat.lt_of_lt_of_le V10.lt (Nat.le_of_eq gg11.symm)))
  have ck630_8 : Arv Z h105 b6 k6 .char (2 : Int32) [(.int (nar .char (own_ch p4))), (.int (nar .char (own_ch p5)))] (.int 0) := ((((((((((((((((((((((((((((((((((((((((((((((((V10.ext E11).other W13 nq2).other W15 nq2).other W17 nq2).other W19 nq2).other W21 nq2).other W23 nq2).other W25 nq2).other W27 nq2).other W29 nq2).other W31 nq2).other W33 nq2).other W35 nq2).other W37 nq2).other W39 nq2).other W41 nq2).other W43 nq2).other W45 nq2).other W47 nq2).other W49 nq2).other W51 nq2).other W53 nq2).other W55 nq2).other W57 nq2).other W59 nq2).other W61 nq2).other W63 nq2).other W65 nq2).other W67 nq2).other W69 nq2).other W71 nq2).other W73 nq2).other W75 nq2).other W77 nq2).other W79 nq2).other W81 nq2).other W83 nq2).other W85 nq2).other W87 nq2).other W89 nq2).other W91 nq2).other W93 nq2).other W95 nq2).other W97 nq2).other W99 nq2).other W101 nq2).other W103 nq2).other W105 nq2)
  have zk630 : n0 ≤ h105.size := (Nat.le_trans (Nat.le_trans (Nat.le_trans (Nat.le_trans (Nat.le_trans (Nat.le_trans (Nat.le_trans (Nat.le_trans (Nat.le_trans (Nat.le_trans (Nat.le_trans (Nat.le_trans (Nat.le_trans (Nat.le_trans (Nat.le_trans (Nat.le_trans (Nat.le_trans (Nat.le_trans (Nat.le_trans (Nat.le_trans (Nat.le_trans (Nat.le_trans (Nat.le_trans (Nat.le_trans (Nat.le_trans (Nat.le_trans (Nat.le_trans (Nat.le_trans (Nat.le_trans (Nat.le_trans (Nat.le_trans (Nat.le_trans (Nat.le_trans (Nat.le_trans (Nat.le_trans (Nat.le_trans (Nat.le_trans (Nat.le_trans (Nat.le_trans (Nat.le_trans (Nat.le_trans (Nat.le_trans (Nat.le_trans (Nat.le_trans (Nat.le_trans (Nat.le_trans (Nat.le_trans (Nat.le_trans (Nat.le_trans (Nat.le_trans (Nat.le_trans (Nat.le_trans (Nat.le_trans (Nat.le_trans Z0 E1.1) (Keep.of_wr W3).1) (Keep.of_wr W5).1) E6.1) (Keep.of_wr W8).1) (Keep.of_wr W10).1) E11.1) (Keep.of_wr W13).1) (Keep.of_wr W15).1) (Keep.of_wr W17).1) (Keep.of_wr W19).1) (Keep.of_wr W21).1) (Keep.of_wr W23).1) (Keep.of_wr W25).1) (Keep.of_wr W27).1) (Keep.of_wr W29).1) (Keep.of_wr W31).1) (Keep.of_wr W33).1) (Keep.of_wr W35).1) (Keep.of_wr W37).1) (Keep.of_wr W39).1) (Keep.of_wr W41).1) (Keep.of_wr W43).1) (Keep.of_wr W45).1) (Keep.of_wr W47).1) (Keep.of_wr W49).1) (Keep.of_wr W51).1) (Keep.of_wr W53).1) (Keep.of_wr W55).1) (Keep.of_wr W57).1) (Keep.of_wr W59).1) (Keep.of_wr W61).1) (Keep.of_wr W63).1) (Keep.of_wr W65).1) (Keep.of_wr W67).1) (Keep.of_wr W69).1) (Keep.of_wr W71).1) (Keep.of_wr W73).1) (Keep.of_wr W75).1) (Keep.of_wr W77).1) (Keep.of_wr W79).1) (Keep.of_wr W81).1) (Keep.of_wr W83).1) (Keep.of_wr W85).1) (Keep.of_wr W87).1) (Keep.of_wr W89).1) (Keep.of_wr W91).1) (Keep.of_wr W93).1) (Keep.of_wr W95).1) (Keep.of_wr W97).1) (Keep.of_wr W99).1) (Keep.of_wr W101).1) (Keep.of_wr W103).1) (Keep.of_wr W105).1)
  have hkk630 := (Nat.le_trans (Nat.le_trans (Nat.le_trans (Nat.le_trans (Nat.le_trans (Nat.le_trans (Nat.le_trans (Nat.le_trans (Nat.le_trans (Nat.le_trans (Nat.le_trans (Nat.le_trans (Nat.le_trans (Nat.le_trans (Nat.le_trans (Nat.le_trans (Nat.le_trans (Nat.le_trans (Nat.le_trans (Nat.le_trans (Nat.le_trans (Nat.le_trans (Nat.le_trans (Nat.le_trans (Nat.le_trans (Nat.le_trans (Nat.le_trans (Nat.le_trans (Nat.le_trans (Nat.le_trans (Nat.le_trans (Nat.le_trans (Nat.le_trans (Nat.le_trans (Nat.le_trans (Nat.le_trans (Nat.le_trans (Nat.le_trans (Nat.le_trans (Nat.le_trans (Nat.le_trans (Nat.le_trans (Nat.le_trans (Nat.le_trans (Nat.le_trans (Nat.le_trans (Nat.le_trans (Nat.le_trans (Nat.le_trans (Nat.le_trans (Nat.le_trans (Nat.le_trans (Nat.le_trans (Nat.le_trans hk0 E1.1) (Keep.of_wr W3).1) (Keep.of_wr W5).1) E6.1) (Keep.of_wr W8).1) (Keep.of_wr W10).1) E11.1) (Keep.of_wr W13).1) (Keep.of_wr W15).1) (Keep.of_wr W17).1) (Keep.of_wr W19).1) (Keep.of_wr W21).1) (Keep.of_wr W23).1) (Keep.of_wr W25).1) (Keep.of_wr W27).1) (Keep.of_wr W29).1) (Keep.of_wr W31).1) (Keep.of_wr W33).1) (Keep.of_wr W35).1) (Keep.of_wr W37).1) (Keep.of_wr W39).1) (Keep.of_wr W41).1) (Keep.of_wr W43).1) (Keep.of_wr W45).1) (Keep.of_wr W47).1) (Keep.of_wr W49).1) (Keep.of_wr W51).1) (Keep.of_wr W53).1) (Keep.of_wr W55).1) (Keep.of_wr W57).1) (Keep.of_wr W59).1) (Keep.of_wr W61).1) (Keep.of_wr W63).1) (Keep.of_wr W65).1) (Keep.of_wr W67).1) (Keep.of_wr W69).1) (Keep.of_wr W71).1) (Keep.of_wr W73).1) (Keep.of_wr W75).1) (Keep.of_wr W77).1) (Keep.of_wr W79).1) (Keep.of_wr W81).1) (Keep.of_wr W83).1) (Keep.of_wr W85).1) (Keep.of_wr W87).1) (Keep.of_wr W89).1) (Keep.of_wr W91).1) (Keep.of_wr W93).1) (Keep.of_wr W95).1) (Keep.of_wr W97).1) (Keep.of_wr W99).1) (Keep.of_wr W101).1) (Keep.of_wr W103).1) (Keep.of_wr W105).1)
  obtain ⟨LLk630, Xk630, Nk630⟩ := own_gen X105 N105
  obtain ⟨T106, h106, X106, e106, E106, A106, D106, -, st106⟩ := newO Xk630 hx hZ0 hown0 (own_t hw 1 rfl) (own_t hw 2 rfl) (own_t hw 3 rfl) e105 (g := (mkF m 630 #[.val (.int p1), .val (.int p2), .val (.int p3), .val (.int p4), .val (.int p5), .val (.int 0), .val (.int (own_ch p2)), .val (.int (own_ch p3)), .val (.int (own_ch p4)), .val (.int (own_ch p5)), .val (.ref b1), .val (.ref b6), .val (.ref b11), .unset, .unset, .unset] [])) rfl (hb hby at_630) (by decide) (by decide)
  obtain ⟨b106, gg106⟩ : ∃ z, z = h105.size := ⟨_, rfl⟩
  rw [← gg106] at A106 D106 st106
  have CH106 := CHr.trans CH105 (CHr.ext E106 CH105.1)
  have g_b106 : n0 ≤ b106 := Nat.le_trans zk630 (Nat.le_of_eq gg106.symm)
  have sz_b106 : h0.size ≤ b106 := Nat.le_trans Q105.1 (Nat.le_of_eq gg106.symm)
  have Q106 : Keep h0 h106 [] := Q105.ext E106
  have F_coder_b106 : Fld Z h106 b106 "java/lang/String" "coder" "B" (.int 0) := D106 (Or.inr (own_t hw 27 rfl)) (ty := .byte) (by decide)
  have F_value_b106 : Fld Z h106 b106 "java/lang/String" "value" "[B" .null := D106 (Or.inr (own_t hw 29 rfl)) (ty := (.array .byte)) (by decide)
  have hp_b106 : ∀ c ∈ ([(nar .char 98), (nar .char 101), (nar .char 115), (nar .char 116), (nar .char 45), (nar .char 101), (nar .char 102), (nar .char 102), (nar .char 111), (nar .char 114), (nar .char 116), (nar .char 32), (nar .char 109), (nar .char 101), (nar .char 115), (nar .char 115), (nar .char 97), (nar .char 103), (nar .char 101), (nar .char 32), (nar .char (own_ch p2)), (nar .char (own_ch p3)), (nar .char 32), (nar .char 111), (nar .char 102), (nar .char 32), (nar .char 103), (nar .char 108), (nar .char 111), (nar .char 98), (nar .char 97), (nar .char 108), (nar .char 32), (nar .char 116), (nar .char 114), (nar .char 97), (nar .char 110), (nar .char 115), (nar .char 97), (nar .char 99), (nar .char 116), (nar .char 105), (nar .char 111), (nar .char 110), (nar .char 32), (nar .char (own_ch p4)), (nar .char (own_ch p5))] : List Int32), ¬ c < 0 ∧ ¬ (255 : Int32) < c := (own_cons (by decide) (own_cons (by decide) (own_cons (by decide) (own_cons (by decide) (own_cons (by decide) (own_cons (by decide) (own_cons (by decide) (own_cons (by decide) (own_cons (by decide) (own_cons (by decide) (own_cons (by decide) (own_cons (by decide) (own_cons (by decide) (own_cons (by decide) (own_cons (by decide) (own_cons (by decide) (own_cons (by decide) (own_cons (by decide) (own_cons (by decide) (own_cons (by decide) (own_cons (own_ch_rng _) (own_cons (own_ch_rng _) (own_cons (by decide) (own_cons (by decide) (own_cons (by decide) (own_cons (by decide) (own_cons (by decide) (own_cons (by decide) (own_cons (by decide) (own_cons (by decide) (own_cons (by decide) (own_cons (by decide) (own_cons (by decide) (own_cons (by decide) (own_cons (by decide) (own_cons (by decide) (own_cons (by decide) (own_cons (by decide) (own_cons (by decide) (own_cons (by decide) (own_cons (by decide) (own_cons (by decide) (own_cons (by decide) (own_cons (by decide) (own_cons (by decide) (own_cons (own_ch_rng _) (own_cons (own_ch_rng _) own_nil0)))))))))))))))))))))))))))))))))))))))))))))))
  obtain ⟨_, _, ⟨T107, LL107, kk107, nn107⟩, -, X107, ⟨Lc107, hQ107, l107, y107, z107⟩, st107⟩ := X106.specialBack hx (y := (⟨"java/lang/String", "<init>", "([C)V"⟩ : MethodName)) rfl hown0 (mvT hZ0 (own_t hw 4 rfl)) (mvT hZ0 (own_t hw 5 rfl)) (mvT hZ0 (own_t hw 6 rfl)) (by decide) (StrChars.Road.backV (W := 1) hZ0 (own_hws Z a0 hw) (kI := 4) (own_t hw 2 rfl) (cs := ([(nar .char 98), (nar .char 101), (nar .char 115), (nar .char 116), (nar .char 45), (nar .char 101), (nar .char 102), (nar .char 102), (nar .char 111), (nar .char 114), (nar .char 116), (nar .char 32), (nar .char 109), (nar .char 101), (nar .char 115), (nar .char 115), (nar .char 97), (nar .char 103), (nar .char 101), (nar .char 32), (nar .char (own_ch p2)), (nar .char (own_ch p3)), (nar .char 32), (nar .char 111), (nar .char 102), (nar .char 32), (nar .char 103), (nar .char 108), (nar .char 111), (nar .char 98), (nar .char 97), (nar .char 108), (nar .char 32), (nar .char 116), (nar .char 114), (nar .char 97), (nar .char 110), (nar .char 115), (nar .char 97), (nar .char 99), (nar .char 116), (nar .char 105), (nar .char 111), (nar .char 110), (nar .char 32), (nar .char (own_ch p4)), (nar .char (own_ch p5))] : List Int32)) (bs := (([(nar .char 98), (nar .char 101), (nar .char 115), (nar .char 116), (nar .char 45), (nar .char 101), (nar .char 102), (nar .char 102), (nar .char 111), (nar .char 114), (nar .char 116), (nar .char 32), (nar .char 109), (nar .char 101), (nar .char 115), (nar .char 115), (nar .char 97), (nar .char 103), (nar .char 101), (nar .char 32), (nar .char (own_ch p2)), (nar .char (own_ch p3)), (nar .char 32), (nar .char 111), (nar .char 102), (nar .char 32), (nar .char 103), (nar .char 108), (nar .char 111), (nar .char 98), (nar .char 97), (nar .char 108), (nar .char 32), (nar .char 116), (nar .char 114), (nar .char 97), (nar .char 110), (nar .char 115), (nar .char 97), (nar .char 99), (nar .char 116), (nar .char 105), (nar .char 111), (nar .char 110), (nar .char 32), (nar .char (own_ch p4)), (nar .char (own_ch p5))] : List Int32)).map (fun c => c.toInt8.toInt32)) (n := 47) g_b106 (Nat.le_trans zk630 E106.1) A106 F_value_b106 F_coder_b106 (V105.ext E106) (ck630_0.ext E106) hzc rfl rfl (by decide) (by decide) hp_b106 rfl (by decide) (by decide)) (g := (mkF m 636 #[.val (.int p1), .val (.int p2), .val (.int p3), .val (.int p4), .val (.int p5), .val (.int 0), .val (.int (own_ch p2)), .val (.int (own_ch p3)), .val (.int (own_ch p4)), .val (.int (own_ch p5)), .val (.ref b1), .val (.ref b6), .val (.ref b11), .unset, .unset, .unset] [(.ref b11), (.ref b106), (.ref b106)])) rfl (by rw [hml]; rfl) (Steps.refl _) (a := b106) (argsL := [(.ref b11)]) (rest := [(.ref b106)]) (lenOf pd_27 rfl) rfl (by show 2 * 0 + _ ≤ _; exact Nat.le_of_eq rfl) (hb hby at_636) (fun _ _ => ⟨rfl, e106, (by decide : 4 + 1 ≤ _), (by decide : 55 + 47 ≤ _)⟩)
  dsimp only [Pt.U, Pt.locs, Pt.cells, Pt.slots] at X107 l107 y107 z107 st107 hQ107
  subst l107 y107 z107
  obtain ⟨rfl, N107q, K107, EA107, FC107, t107, kb107, g_t107, sq_t107, tn107, FV107, AV107⟩ := hQ107
  have N107 := Fr.app Nk630 N107q
  have CH107 := CHr.trans CH106 (CHr.keep K107 (sfS (own_safe_null hZ0.alike A106 F_value_b106) sf0) CH106.1)
  have sz_t107 : h0.size ≤ t107 := Nat.le_trans Q106.1 sq_t107
  have Q107 : Keep h0 T107.heap [] := Q106.trans K107 (allS (Or.inr sz_b106) all0)
  obtain ⟨T108, h108, X108, e108, E108, A108, D108, -, st108⟩ := newO X107 hx hZ0 hown0 (own_t hw 30 rfl) (own_t hw 31 rfl) (own_t hw 32 rfl) rfl (g := (mkF m 641 #[.val (.int p1), .val (.int p2), .val (.int p3), .val (.int p4), .val (.int p5), .val (.int 0), .val (.int (own_ch p2)), .val (.int (own_ch p3)), .val (.int (own_ch p4)), .val (.int (own_ch p5)), .val (.ref b1), .val (.ref b6), .val (.ref b11), .val (.ref b106), .unset, .unset] [])) rfl (hb hby at_641) (by decide) (by decide)
  obtain ⟨b108, gg108⟩ : ∃ z, z = T107.heap.size := ⟨_, rfl⟩
  rw [← gg108] at A108 D108 st108
  have CH108 := CHr.trans CH107 (CHr.ext E108 CH107.1)
  have g_b108 : n0 ≤ b108 := Nat.le_trans (Nat.le_trans (Nat.le_trans zk630 E106.1) K107.1) (Nat.le_of_eq gg108.symm)
  have sz_b108 : h0.size ≤ b108 := Nat.le_trans Q107.1 (Nat.le_of_eq gg108.symm)
  have Q108 : Keep h0 h108 [] := Q107.ext E108
  have F_id_b108 : Fld Z h108 b108 "com/example/gentle_commit/gentlecommit/initiator/Message" "id" "Ljava/lang/String;" .null := D108 (Or.inr (own_t hw 95 rfl)) (ty := (.object "java/lang/String")) (by decide)
  have F_gid_b108 : Fld Z h108 b108 "com/example/gentle_commit/gentlecommit/initiator/Message" "gid" "Ljava/lang/String;" .null := D108 (Or.inr (own_t hw 97 rfl)) (ty := (.object "java/lang/String")) (by decide)
  have F_reliable_b108 : Fld Z h108 b108 "com/example/gentle_commit/gentlecommit/initiator/Message" "reliable" "Z" (.int 0) := D108 (Or.inr (own_t hw 99 rfl)) (ty := .boolean) (by decide)
  have F_exchange_b108 : Fld Z h108 b108 "com/example/gentle_commit/gentlecommit/initiator/Message" "exchange" "Ljava/lang/String;" .null := D108 (Or.inr (own_t hw 101 rfl)) (ty := (.object "java/lang/String")) (by decide)
  have F_routingKey_b108 : Fld Z h108 b108 "com/example/gentle_commit/gentlecommit/initiator/Message" "routingKey" "Ljava/lang/String;" .null := D108 (Or.inr (own_t hw 103 rfl)) (ty := (.object "java/lang/String")) (by decide)
  have F_body_b108 : Fld Z h108 b108 "com/example/gentle_commit/gentlecommit/initiator/Message" "body" "[B" .null := D108 (Or.inr (own_t hw 105 rfl)) (ty := (.array .byte)) (by decide)
  obtain ⟨T109, h109, X109, e109, E109, A109, D109, -, st109⟩ := newO X108 hx hZ0 hown0 (own_t hw 1 rfl) (own_t hw 2 rfl) (own_t hw 3 rfl) e108 (g := (mkF m 645 #[.val (.int p1), .val (.int p2), .val (.int p3), .val (.int p4), .val (.int p5), .val (.int 0), .val (.int (own_ch p2)), .val (.int (own_ch p3)), .val (.int (own_ch p4)), .val (.int (own_ch p5)), .val (.ref b1), .val (.ref b6), .val (.ref b11), .val (.ref b106), .unset, .unset] [(.ref b108), (.ref b108)])) rfl (hb hby at_645) (by decide) (by decide)
  obtain ⟨b109, gg109⟩ : ∃ z, z = h108.size := ⟨_, rfl⟩
  rw [← gg109] at A109 D109 st109
  have CH109 := CHr.trans CH108 (CHr.ext E109 CH108.1)
  have g_b109 : n0 ≤ b109 := Nat.le_trans (Nat.le_trans (Nat.le_trans (Nat.le_trans zk630 E106.1) K107.1) E108.1) (Nat.le_of_eq gg109.symm)
  have sz_b109 : h0.size ≤ b109 := Nat.le_trans Q108.1 (Nat.le_of_eq gg109.symm)
  have Q109 : Keep h0 h109 [] := Q108.ext E109
  have F_coder_b109 : Fld Z h109 b109 "java/lang/String" "coder" "B" (.int 0) := D109 (Or.inr (own_t hw 27 rfl)) (ty := .byte) (by decide)
  have F_value_b109 : Fld Z h109 b109 "java/lang/String" "value" "[B" .null := D109 (Or.inr (own_t hw 29 rfl)) (ty := (.array .byte)) (by decide)
  have hp_b109 : ∀ c ∈ ([(nar .char (own_ch p2)), (nar .char (own_ch p3))] : List Int32), ¬ c < 0 ∧ ¬ (255 : Int32) < c := (own_cons (own_ch_rng _) (own_cons (own_ch_rng _) own_nil0))
  have nq3 : b1 ≠ b106 := (Nat.ne_of_lt (Nat.lt_of_lt_of_le ck630_7.lt (Nat.le_of_eq gg106.symm)))
  obtain ⟨_, _, ⟨T110, LL110, kk110, nn110⟩, -, X110, ⟨Lc110, hQ110, l110, y110, z110⟩, st110⟩ := X109.specialBack hx (y := (⟨"java/lang/String", "<init>", "([C)V"⟩ : MethodName)) rfl hown0 (mvT hZ0 (own_t hw 4 rfl)) (mvT hZ0 (own_t hw 5 rfl)) (mvT hZ0 (own_t hw 6 rfl)) (by decide) (StrChars.Road.backV (W := 3) hZ0 (own_hws Z a0 hw) (kI := 4) (own_t hw 2 rfl) (cs := ([(nar .char (own_ch p2)), (nar .char (own_ch p3))] : List Int32)) (bs := (([(nar .char (own_ch p2)), (nar .char (own_ch p3))] : List Int32)).map (fun c => c.toInt8.toInt32)) (n := 2) g_b109 (Nat.le_trans (Nat.le_trans (Nat.le_trans (Nat.le_trans zk630 E106.1) K107.1) E108.1) E109.1) A109 F_value_b109 F_coder_b109 ((((ck630_7.ext E106).keep K107 (ninS nq3 nin0)).ext E108).ext E109) (((own_sta_keep1 (ck630_0.ext E106) K107 A106).ext E108).ext E109) hzc rfl rfl (by decide) (by decide) hp_b109 rfl (by decide) (by decide)) (g := (mkF m 651 #[.val (.int p1), .val (.int p2), .val (.int p3), .val (.int p4), .val (.int p5), .val (.int 0), .val (.int (own_ch p2)), .val (.int (own_ch p3)), .val (.int (own_ch p4)), .val (.int (own_ch p5)), .val (.ref b1), .val (.ref b6), .val (.ref b11), .val (.ref b106), .unset, .unset] [(.ref b1), (.ref b109), (.ref b109), (.ref b108), (.ref b108)])) rfl (by rw [hml]; rfl) (Steps.refl _) (a := b109) (argsL := [(.ref b1)]) (rest := [(.ref b109), (.ref b108), (.ref b108)]) (lenOf pd_27 rfl) rfl (by show 2 * 0 + _ ≤ _; exact Nat.le_of_eq rfl) (hb hby at_651) (fun _ _ => ⟨rfl, e109, (by decide : 7 + 1 ≤ _), (by decide : 112 + 2 ≤ _)⟩)
  dsimp only [Pt.U, Pt.locs, Pt.cells, Pt.slots] at X110 l110 y110 z110 st110 hQ110
  subst l110 y110 z110
  obtain ⟨rfl, N110q, K110, EA110, FC110, t110, kb110, g_t110, sq_t110, tn110, FV110, AV110⟩ := hQ110
  have N110 := Fr.app N107 N110q
  have CH110 := CHr.trans CH109 (CHr.keep K110 (sfS (own_safe_null hZ0.alike A109 F_value_b109) sf0) CH109.1)
  have sz_t110 : h0.size ≤ t110 := Nat.le_trans Q109.1 sq_t110
  have Q110 : Keep h0 T110.heap [] := Q109.trans K110 (allS (Or.inr sz_b109) all0)
  have AX_b109 : Arv Z T110.heap t110 kb110 .byte (2 : Int32) [(.int (own_b p2)), (.int (own_b p3))] (.int 0) := AV110
  obtain ⟨T111, h111, X111, e111, E111, A111, D111, -, st111⟩ := newO X110 hx hZ0 hown0 (own_t hw 1 rfl) (own_t hw 2 rfl) (own_t hw 3 rfl) rfl (g := (mkF m 654 #[.val (.int p1), .val (.int p2), .val (.int p3), .val (.int p4), .val (.int p5), .val (.int 0), .val (.int (own_ch p2)), .val (.int (own_ch p3)), .val (.int (own_ch p4)), .val (.int (own_ch p5)), .val (.ref b1), .val (.ref b6), .val (.ref b11), .val (.ref b106), .unset, .unset] [(.ref b109), (.ref b108), (.ref b108)])) rfl (hb hby at_654) (by decide) (by decide)
  obtain ⟨b111, gg111⟩ : ∃ z, z = T110.heap.size := ⟨_, rfl⟩
  rw [← gg111] at A111 D111 st111
  have CH111 := CHr.trans CH110 (CHr.ext E111 CH110.1)
  have g_b111 : n0 ≤ b111 := Nat.le_trans (Nat.le_trans (Nat.le_trans (Nat.le_trans (Nat.le_trans (Nat.le_trans zk630 E106.1) K107.1) E108.1) E109.1) K110.1) (Nat.le_of_eq gg111.symm)
  have sz_b111 : h0.size ≤ b111 := Nat.le_trans Q110.1 (Nat.le_of_eq gg111.symm)
  have Q111 : Keep h0 h111 [] := Q110.ext E111
  have F_coder_b111 : Fld Z h111 b111 "java/lang/String" "coder" "B" (.int 0) := D111 (Or.inr (own_t hw 27 rfl)) (ty := .byte) (by decide)
  have F_value_b111 : Fld Z h111 b111 "java/lang/String" "value" "[B" .null := D111 (Or.inr (own_t hw 29 rfl)) (ty := (.array .byte)) (by decide)
  have hp_b111 : ∀ c ∈ ([(nar .char (own_ch p4)), (nar .char (own_ch p5))] : List Int32), ¬ c < 0 ∧ ¬ (255 : Int32) < c := (own_cons (own_ch_rng _) (own_cons (own_ch_rng _) own_nil0))
  have nq4 : b6 ≠ b106 := (Nat.ne_of_lt (Nat.lt_of_lt_of_le ck630_8.lt (Nat.le_of_eq gg106.symm)))
  have nq5 : b6 ≠ b109 := (Nat.ne_of_lt (Nat.lt_of_lt_of_le (((ck630_8.ext E106).keep K107 (ninS nq4 nin0)).ext E108).lt (Nat.le_of_eq gg109.symm)))
  obtain ⟨_, _, ⟨T112, LL112, kk112, nn112⟩, -, X112, ⟨Lc112, hQ112, l112, y112, z112⟩, st112⟩ := X111.specialBack hx (y := (⟨"java/lang/String", "<init>", "([C)V"⟩ : MethodName)) rfl hown0 (mvT hZ0 (own_t hw 4 rfl)) (mvT hZ0 (own_t hw 5 rfl)) (mvT hZ0 (own_t hw 6 rfl)) (by decide) (StrChars.Road.backV (W := 4) hZ0 (own_hws Z a0 hw) (kI := 4) (own_t hw 2 rfl) (cs := ([(nar .char (own_ch p4)), (nar .char (own_ch p5))] : List Int32)) (bs := (([(nar .char (own_ch p4)), (nar .char (own_ch p5))] : List Int32)).map (fun c => c.toInt8.toInt32)) (n := 2) g_b111 (Nat.le_trans (Nat.le_trans (Nat.le_trans (Nat.le_trans (Nat.le_trans (Nat.le_trans zk630 E106.1) K107.1) E108.1) E109.1) K110.1) E111.1) A111 F_value_b111 F_coder_b111 ((((((ck630_8.ext E106).keep K107 (ninS nq4 nin0)).ext E108).ext E109).keep K110 (ninS nq5 nin0)).ext E111) ((own_sta_keep1 (((own_sta_keep1 (ck630_0.ext E106) K107 A106).ext E108).ext E109) K110 A109).ext E111) hzc rfl rfl (by decide) (by decide) hp_b111 rfl (by decide) (by decide)) (g := (mkF m 660 #[.val (.int p1), .val (.int p2), .val (.int p3), .val (.int p4), .val (.int p5), .val (.int 0), .val (.int (own_ch p2)), .val (.int (own_ch p3)), .val (.int (own_ch p4)), .val (.int (own_ch p5)), .val (.ref b1), .val (.ref b6), .val (.ref b11), .val (.ref b106), .unset, .unset] [(.ref b6), (.ref b111), (.ref b111), (.ref b109), (.ref b108), (.ref b108)])) rfl (by rw [hml]; rfl) (Steps.refl _) (a := b111) (argsL := [(.ref b6)]) (rest := [(.ref b111), (.ref b109), (.ref b108), (.ref b108)]) (lenOf pd_27 rfl) rfl (by show 2 * 0 + _ ≤ _; exact Nat.le_of_eq rfl) (hb hby at_660) (fun _ _ => ⟨rfl, e111, (by decide : 9 + 1 ≤ _), (by decide : 118 + 2 ≤ _)⟩)
  dsimp only [Pt.U, Pt.locs, Pt.cells, Pt.slots] at X112 l112 y112 z112 st112 hQ112
  subst l112 y112 z112
  obtain ⟨rfl, N112q, K112, EA112, FC112, t112, kb112, g_t112, sq_t112, tn112, FV112, AV112⟩ := hQ112
  have N112 := Fr.app N110 N112q
  have CH112 := CHr.trans CH111 (CHr.keep K112 (sfS (own_safe_null hZ0.alike A111 F_value_b111) sf0) CH111.1)
  have sz_t112 : h0.size ≤ t112 := Nat.le_trans Q111.1 sq_t112
  have Q112 : Keep h0 T112.heap [] := Q111.trans K112 (allS (Or.inr sz_b111) all0)
  have AX_b111 : Arv Z T112.heap t112 kb112 .byte (2 : Int32) [(.int (own_b p4)), (.int (own_b p5))] (.int 0) := AV112
  obtain ⟨b113, T113, h113, k113, t113, c113, X113, e113, E113, hS113, hk113, hZ113, hown113, EA113, FC113, FV113, AV113, -, -, C113, -, SN113, st113⟩ := ldcCH X112 hx hZ0 hown0 (own_t hw 33 rfl) (own_wS Z a0 hw) rfl hS0 (Nat.le_trans (Nat.le_trans (Nat.le_trans (Nat.le_trans (Nat.le_trans (Nat.le_trans (Nat.le_trans hkk630 E106.1) K107.1) E108.1) E109.1) K110.1) E111.1) K112.1) (own_EW Z a0 hw) (List.mem_of_getElem? (i := 4) rfl) CH112.1 (vs := []) (z := (0 : Int32)) (by decide) (by decide) rfl (g := (mkF m 665 #[.val (.int p1), .val (.int p2), .val (.int p3), .val (.int p4), .val (.int p5), .val (.int 0), .val (.int (own_ch p2)), .val (.int (own_ch p3)), .val (.int (own_ch p4)), .val (.int (own_ch p5)), .val (.ref b1), .val (.ref b6), .val (.ref b11), .val (.ref b106), .unset, .unset] [(.int 0), (.ref b111), (.ref b109), (.ref b108), (.ref b108)])) rfl (hb hby at_665) (n := 0) (by decide) (by decide) (by decide) (by decide)
  have CH113 := CHr.trans CH112 (C113)
  have Q113 : Keep h0 h113 [] := Q112.ext E113
  obtain ⟨b114, T114, h114, k114, t114, c114, X114, e114, E114, hS114, hk114, hZ114, hown114, EA114, FC114, FV114, AV114, -, -, C114, -, SN114, st114⟩ := ldcCH X113 hx hZ113 hown113 (own_t hw 33 rfl) (own_wS Z a0 hw) e113 hS113 hk113 (own_EW Z a0 hw) (List.mem_of_getElem? (i := 4) rfl) CH113.1 (vs := []) (z := (0 : Int32)) (by decide) (by decide) rfl (g := (mkF m 667 #[.val (.int p1), .val (.int p2), .val (.int p3), .val (.int p4), .val (.int p5), .val (.int 0), .val (.int (own_ch p2)), .val (.int (own_ch p3)), .val (.int (own_ch p4)), .val (.int (own_ch p5)), .val (.ref b1), .val (.ref b6), .val (.ref b11), .val (.ref b106), .unset, .unset] [(.ref b113), (.int 0), (.ref b111), (.ref b109), (.ref b108), (.ref b108)])) rfl (hb hby at_667) (n := 0) (by decide) (by decide) (by decide) (by decide)
  have CH114 := CHr.trans CH113 (C114)
  have Q114 : Keep h0 h114 [] := Q113.ext E114
  obtain ⟨T115, h115, k115, X115, e115, E115, A115, EX115, st115⟩ := newPE X114 hx hZ114 (own_t hw 19 rfl) e114 (g := (mkF m 670 #[.val (.int p1), .val (.int p2), .val (.int p3), .val (.int p4), .val (.int p5), .val (.int 0), .val (.int (own_ch p2)), .val (.int (own_ch p3)), .val (.int (own_ch p4)), .val (.int (own_ch p5)), .val (.ref b1), .val (.ref b6), .val (.ref b11), .val (.ref b106), .unset, .unset] [(.int 0), (.ref b114), (.ref b113), (.int 0), (.ref b111), (.ref b109), (.ref b108), (.ref b108)])) rfl (hb hby at_670) rfl (by decide) (cap := 0) (by decide) (by decide) (by decide) (by decide) (ad := "[B") (by decide)
  obtain ⟨b115, gg115⟩ : ∃ z, z = h114.size := ⟨_, rfl⟩
  rw [← gg115] at A115 EX115 st115
  have Sb115_115 := Safe.ext E115 CH114.1 (Safe.new (vm := _) (Nat.le_of_eq gg115.symm))
  have CH115 := CHr.trans CH114 (CHr.ext E115 CH114.1)
  have g_b115 : n0 ≤ b115 := Nat.le_trans (Nat.le_trans (Nat.le_trans (Nat.le_trans (Nat.le_trans (Nat.le_trans (Nat.le_trans (Nat.le_trans (Nat.le_trans (Nat.le_trans zk630 E106.1) K107.1) E108.1) E109.1) K110.1) E111.1) K112.1) E113.1) E114.1) (Nat.le_of_eq gg115.symm)
  have sz_b115 : h0.size ≤ b115 := Nat.le_trans Q114.1 (Nat.le_of_eq gg115.symm)
  have Q115 : Keep h0 h115 [] := Q114.ext E115
  have V_b115 : Arv Z h115 b115 k115 .byte (0 : Int32) [] (.int 0) := (Arv.new A115 (by decide)).pad (pad_rep [] (.int 0) 0)
  have nq6 : b108 ≠ b109 := (Nat.ne_of_lt (Nat.lt_of_lt_of_le A108.lt (Nat.le_of_eq gg109.symm)))
  have nq7 : b108 ≠ b111 := (Nat.ne_of_lt (Nat.lt_of_lt_of_le ((A108.ext E109).keep K110).lt (Nat.le_of_eq gg111.symm)))
  obtain ⟨_, _, ⟨T116, LL116, kk116, nn116⟩, -, X116r, hS116r, hg116r, ⟨Lc116, hQ116, l116, y116, z116, C116⟩, st116⟩ := X115.specialBackS hx (y := (⟨"com/example/gentle_commit/gentlecommit/initiator/Message", "<init>", "(Ljava/lang/String;Ljava/lang/String;ZLjava/lang/String;Ljava/lang/String;[B)V"⟩ : MethodName)) rfl hown114 (mvT hZ114 (own_t hw 36 rfl)) (mvT hZ114 (own_t hw 37 rfl)) (mvT hZ114 (own_t hw 38 rfl)) (by decide) (backOfSH (W := 1) (rmMI l Z a0 hw [] b108 b109 b111 (0 : Int32) b113 b114 b115 t113 c113 t114 c114 k115 cu zc h115 n0 (Nat.le_trans (Nat.le_trans (Nat.le_trans (Nat.le_trans (Nat.le_trans (Nat.le_trans (Nat.le_trans (Nat.le_trans (Nat.le_trans (Nat.le_trans zk630 E106.1) K107.1) E108.1) E109.1) K110.1) E111.1) K112.1) E113.1) E114.1) E115.1) (((((((A108.ext E109).keep K110).ext E111).keep K112).ext E113).ext E114).ext E115) g_b108 (((((((F_id_b108.ext E109).keep K110 (ninS nq6 nin0)).ext E111).keep K112 (ninS nq7 nin0)).ext E113).ext E114).ext E115) (((((((F_gid_b108.ext E109).keep K110 (ninS nq6 nin0)).ext E111).keep K112 (ninS nq7 nin0)).ext E113).ext E114).ext E115) (((((((F_reliable_b108.ext E109).keep K110 (ninS nq6 nin0)).ext E111).keep K112 (ninS nq7 nin0)).ext E113).ext E114).ext E115) (((((((F_exchange_b108.ext E109).keep K110 (ninS nq6 nin0)).ext E111).keep K112 (ninS nq7 nin0)).ext E113).ext E114).ext E115) (((((((F_routingKey_b108.ext E109).keep K110 (ninS nq6 nin0)).ext E111).keep K112 (ninS nq7 nin0)).ext E113).ext E114).ext E115) (((((((F_body_b108.ext E109).keep K110 (ninS nq6 nin0)).ext E111).keep K112 (ninS nq7 nin0)).ext E113).ext E114).ext E115) ((EA113.ext E114).ext E115) ((FV113.ext E114).ext E115) ((FC113.ext E114).ext E115) ((AV113.ext E114).ext E115) (((own_bkexa hZ113.alike AV113 SN113).ext E114).ext E115) (EA114.ext E115) (FV114.ext E115) (FC114.ext E115) (AV114.ext E115) ((own_bkexa hZ114.alike AV114 SN114).ext E115) V_b115 EX115 ((((own_sta_keep1 ((own_sta_keep1 (((own_sta_keep1 (ck630_2.ext E106) K107 A106).ext E108).ext E109) K110 A109).ext E111) K112 A111).ext E113).ext E114).ext E115) ((((own_sta_keep1 ((own_sta_keep1 (((own_sta_keep1 (ck630_3.ext E106) K107 A106).ext E108).ext E109) K110 A109).ext E111) K112 A111).ext E113).ext E114).ext E115) ((((own_sta_keep1 ((own_sta_keep1 (((own_sta_keep1 (ck630_0.ext E106) K107 A106).ext E108).ext E109) K110 A109).ext E111) K112 A111).ext E113).ext E114).ext E115) (hzc) (by decide)) hZ114 (own_t hw 38 rfl) (own_t hw 32 rfl) (by decide) (by decide) (own_EW Z a0 hw) CH115.1) (g := (mkF m 672 #[.val (.int p1), .val (.int p2), .val (.int p3), .val (.int p4), .val (.int p5), .val (.int 0), .val (.int (own_ch p2)), .val (.int (own_ch p3)), .val (.int (own_ch p4)), .val (.int (own_ch p5)), .val (.ref b1), .val (.ref b6), .val (.ref b11), .val (.ref b106), .unset, .unset] [(.ref b115), (.ref b114), (.ref b113), (.int 0), (.ref b111), (.ref b109), (.ref b108), (.ref b108)])) rfl (by rw [hml]; rfl) (Steps.refl _) (a := b108) (argsL := [(.ref b109), (.ref b111), (.int 0), (.ref b113), (.ref b114), (.ref b115)]) (rest := [(.ref b108)]) (lenOf pd_28 rfl) rfl (by show 2 * 0 + _ ≤ _; exact Nat.le_of_eq rfl) (hb hby at_672) (fun _ _ => ⟨rfl, e115, (by decide : 15 + 11 ≤ _), (by decide : 128 + 112 ≤ _)⟩)
  dsimp only [Pt.U, Pt.locs, Pt.cells, Pt.slots] at X116r hS116r hg116r l116 y116 z116 st116 hQ116 C116
  subst l116 y116 z116
  obtain ⟨X116, hS116, hZ116, hown116⟩ := rebS hS114 (by rw [e115]; exact (Nat.le_trans hk114 E115.1)) X116r hS116r hg116r hZ114 hown114
  obtain ⟨rfl, N116q, K116, p116_0, p116_1, p116_2⟩ := hQ116
  have N116 := Fr.app N112 N116q
  have Sb115_116 := CHr.safe C116 EX115.lt Sb115_115
  have CH116 := CHr.trans CH115 (C116)
  have Q116 : Keep h0 T116.heap [] := Q115.trans K116 (allS (Or.inr sz_b108) all0)
  have nq8 : b109 ≠ b111 := (Nat.ne_of_lt (Nat.lt_of_lt_of_le EA110.lt (Nat.le_of_eq gg111.symm)))
  have nq9 : t110 ≠ b111 := (Nat.ne_of_lt (Nat.lt_of_lt_of_le AX_b109.lt (Nat.le_of_eq gg111.symm)))
  have nq10 : t110 ≠ b108 := (Ne.symm (Nat.ne_of_lt (Nat.lt_of_lt_of_le (A108.ext E109).lt sq_t110)))
  have nq11 : t112 ≠ b108 := (Ne.symm (Nat.ne_of_lt (Nat.lt_of_lt_of_le (((A108.ext E109).keep K110).ext E111).lt sq_t112)))
  obtain ⟨cq117, kq117, q117a, q117b, q117c⟩ := isOf hZ116 rfl ((((((((A108.ext E109).keep K110).ext E111).keep K112).ext E113).ext E114).ext E115).keep K116)
  obtain ⟨_, _, ⟨T117, LL117, kk117, nn117⟩, -, X117r, hS117r, hg117r, ⟨Lc117, hQ117, l117, y117, z117, C117⟩, st117⟩ := X116.virtualBackS hx (y := (⟨"com/example/gentle_commit/gentlecommit/initiator/Message", "describe", "()Ljava/lang/String;"⟩ : MethodName)) (z := (⟨"com/example/gentle_commit/gentlecommit/initiator/Message", "describe", "()Ljava/lang/String;"⟩ : MethodName)) hown116 (mvT hZ116 (own_t hw 106 rfl)) (mvT hZ116 (own_t hw 107 rfl)) (notFace_of_selects (args := #[]) (mvT hZ116 (own_t hw 109 rfl))) (mvT hZ116 (own_t hw 109 rfl)) (mvT hZ116 (own_t hw 108 rfl)) (by decide) (backOfSH (W := 0) (rmD0 l Z a0 hw [] b108 b109 t110 kb110 b111 t112 kb112 (own_b p2) (own_b p3) (own_b p4) (own_b p5) zc T116.heap n0 (Nat.le_trans (Nat.le_trans (Nat.le_trans (Nat.le_trans (Nat.le_trans (Nat.le_trans (Nat.le_trans (Nat.le_trans (Nat.le_trans (Nat.le_trans (Nat.le_trans zk630 E106.1) K107.1) E108.1) E109.1) K110.1) E111.1) K112.1) E113.1) E114.1) E115.1) K116.1) p116_0 p116_1 p116_2 ((((((EA110.ext E111).keep K112).ext E113).ext E114).ext E115).keep K116) ((((((FV110.ext E111).keep K112 (ninS nq8 nin0)).ext E113).ext E114).ext E115).keep K116 (ninS nq6.symm nin0)) ((((((FC110.ext E111).keep K112 (ninS nq8 nin0)).ext E113).ext E114).ext E115).keep K116 (ninS nq6.symm nin0)) ((((((AX_b109.ext E111).keep K112 (ninS nq9 nin0)).ext E113).ext E114).ext E115).keep K116 (ninS nq10 nin0)) ((((EA112.ext E113).ext E114).ext E115).keep K116) ((((FV112.ext E113).ext E114).ext E115).keep K116 (ninS nq7.symm nin0)) ((((FC112.ext E113).ext E114).ext E115).keep K116 (ninS nq7.symm nin0)) ((((AX_b111.ext E113).ext E114).ext E115).keep K116 (ninS nq11 nin0)) (own_sta_keep1 ((((own_sta_keep1 ((own_sta_keep1 (((own_sta_keep1 (ck630_0.ext E106) K107 A106).ext E108).ext E109) K110 A109).ext E111) K112 A111).ext E113).ext E114).ext E115) K116 (((((((A108.ext E109).keep K110).ext E111).keep K112).ext E113).ext E114).ext E115)) (hzc)) hZ116 (own_t hw 110 rfl) (own_t hw 32 rfl) (by decide) (by decide) (own_EW Z a0 hw) CH116.1) q117a q117c (g := (mkF m 679 #[.val (.int p1), .val (.int p2), .val (.int p3), .val (.int p4), .val (.int p5), .val (.int 0), .val (.int (own_ch p2)), .val (.int (own_ch p3)), .val (.int (own_ch p4)), .val (.int (own_ch p5)), .val (.ref b1), .val (.ref b6), .val (.ref b11), .val (.ref b106), .val (.ref b108), .unset] [(.ref b108)])) rfl (by rw [hml]; rfl) (Steps.refl _) (argsL := []) (rest := []) (lenOf pd_26 rfl) rfl (by show 2 * 0 + _ ≤ _; exact Nat.le_of_eq rfl) (hb hby at_679) (fun _ _ => ⟨rfl, rfl, (by decide : 26 + 12 ≤ _), (by decide : 240 + 359 ≤ _)⟩)
  dsimp only [Pt.U, Pt.locs, Pt.cells, Pt.slots] at X117r hS117r hg117r l117 y117 z117 st117 hQ117 C117
  subst l117 y117 z117
  obtain ⟨X117, hS117, hZ117, hown117⟩ := rebS hS116 (Nat.le_refl _) X117r hS117r hg117r hZ116 hown116
  obtain ⟨b_117, t_117, kt_117, rfl, N117q, K117, g_b_117, sq_b_117, g_t_117, sq_t_117, p117_0, p117_1, p117_2, p117_3⟩ := hQ117
  have N117 := Fr.app N116 N117q
  have Sb115_117 := CHr.safe C117 (EX115.keep K116).lt Sb115_116
  have CH117 := CHr.trans CH116 (C117)
  have sz_b_117 : h0.size ≤ b_117 := Nat.le_trans Q116.1 sq_b_117
  have sz_t_117 : h0.size ≤ t_117 := Nat.le_trans Q116.1 sq_t_117
  have Q117 : Keep h0 T117.heap [] := Q116.trans K117 all0
  have VD : Arv Z T117.heap t_117 kt_117 .byte (47 : Int32) ((([(nar .char 98), (nar .char 101), (nar .char 115), (nar .char 116), (nar .char 45), (nar .char 101), (nar .char 102), (nar .char 102), (nar .char 111), (nar .char 114), (nar .char 116), (nar .char 32), (nar .char 109), (nar .char 101), (nar .char 115), (nar .char 115), (nar .char 97), (nar .char 103), (nar .char 101), (nar .char 32), (nar .char (own_ch p2)), (nar .char (own_ch p3)), (nar .char 32), (nar .char 111), (nar .char 102), (nar .char 32), (nar .char 103), (nar .char 108), (nar .char 111), (nar .char 98), (nar .char 97), (nar .char 108), (nar .char 32), (nar .char 116), (nar .char 114), (nar .char 97), (nar .char 110), (nar .char 115), (nar .char 97), (nar .char 99), (nar .char 116), (nar .char 105), (nar .char 111), (nar .char 110), (nar .char 32), (nar .char (own_ch p4)), (nar .char (own_ch p5))] : List Int32).map (fun c => c.toInt8.toInt32)).map Value.int) (.int 0) := by rw [own_lst47]; exact p117_3
  have nq12 : b106 ≠ b109 := (Nat.ne_of_lt (Nat.lt_of_lt_of_le (EA107.ext E108).lt (Nat.le_of_eq gg109.symm)))
  have nq13 : b106 ≠ b111 := (Nat.ne_of_lt (Nat.lt_of_lt_of_le (((EA107.ext E108).ext E109).keep K110).lt (Nat.le_of_eq gg111.symm)))
  have nq14 : b106 ≠ b108 := (Nat.ne_of_lt (Nat.lt_of_lt_of_le EA107.lt (Nat.le_of_eq gg108.symm)))
  have nq15 : t107 ≠ b109 := (Nat.ne_of_lt (Nat.lt_of_lt_of_le (AV107.ext E108).lt (Nat.le_of_eq gg109.symm)))
  have nq16 : t107 ≠ b111 := (Nat.ne_of_lt (Nat.lt_of_lt_of_le (((AV107.ext E108).ext E109).keep K110 (ninS nq15 nin0)).lt (Nat.le_of_eq gg111.symm)))
  have nq17 : t107 ≠ b108 := (Nat.ne_of_lt (Nat.lt_of_lt_of_le AV107.lt (Nat.le_of_eq gg108.symm)))
  obtain ⟨cq118, kq118, q118a, q118b, q118c⟩ := isOf hZ117 rfl p117_0
  obtain ⟨_, _, ⟨T118, LL118, kk118, nn118⟩, -, X118, ⟨Lc118, hQ118, l118, y118, z118⟩, st118⟩ := X117.virtualBack hx (y := (⟨"java/lang/String", "equals", "(Ljava/lang/Object;)Z"⟩ : MethodName)) (z := (⟨"java/lang/String", "equals", "(Ljava/lang/Object;)Z"⟩ : MethodName)) hown117 (mvT hZ117 (own_t hw 236 rfl)) (mvT hZ117 (own_t hw 237 rfl)) (notFace_of_selects (args := #[]) (mvT hZ117 (own_t hw 239 rfl))) (mvT hZ117 (own_t hw 239 rfl)) (mvT hZ117 (own_t hw 238 rfl)) (by decide) (StrChars.Road.eqW (W := 0) hZ117 (own_hwq Z a0 hw) (kI := 4) (own_t hw 2 rfl) p117_0 p117_1 p117_2 VD (StrChars.Road.codOf (cs := (([(nar .char 98), (nar .char 101), (nar .char 115), (nar .char 116), (nar .char 45), (nar .char 101), (nar .char 102), (nar .char 102), (nar .char 111), (nar .char 114), (nar .char 116), (nar .char 32), (nar .char 109), (nar .char 101), (nar .char 115), (nar .char 115), (nar .char 97), (nar .char 103), (nar .char 101), (nar .char 32), (nar .char (own_ch p2)), (nar .char (own_ch p3)), (nar .char 32), (nar .char 111), (nar .char 102), (nar .char 32), (nar .char 103), (nar .char 108), (nar .char 111), (nar .char 98), (nar .char 97), (nar .char 108), (nar .char 32), (nar .char 116), (nar .char 114), (nar .char 97), (nar .char 110), (nar .char 115), (nar .char 97), (nar .char 99), (nar .char 116), (nar .char 105), (nar .char 111), (nar .char 110), (nar .char 32), (nar .char (own_ch p4)), (nar .char (own_ch p5))] : List Int32) : List Int32)) (n := 47) rfl (fun c hc => (hp_b106 c hc).2)) (own_up hp_b106) (Nat.le_of_ble_eq_true rfl) ((((((((((EA107.ext E108).ext E109).keep K110).ext E111).keep K112).ext E113).ext E114).ext E115).keep K116).keep K117) ((((((((((FV107.ext E108).ext E109).keep K110 (ninS nq12 nin0)).ext E111).keep K112 (ninS nq13 nin0)).ext E113).ext E114).ext E115).keep K116 (ninS nq14 nin0)).keep K117 nin0) ((((((((((FC107.ext E108).ext E109).keep K110 (ninS nq12 nin0)).ext E111).keep K112 (ninS nq13 nin0)).ext E113).ext E114).ext E115).keep K116 (ninS nq14 nin0)).keep K117 nin0) ((((((((((AV107.ext E108).ext E109).keep K110 (ninS nq15 nin0)).ext E111).keep K112 (ninS nq16 nin0)).ext E113).ext E114).ext E115).keep K116 (ninS nq17 nin0)).keep K117 nin0) (StrChars.Road.codOf (cs := (([(nar .char 98), (nar .char 101), (nar .char 115), (nar .char 116), (nar .char 45), (nar .char 101), (nar .char 102), (nar .char 102), (nar .char 111), (nar .char 114), (nar .char 116), (nar .char 32), (nar .char 109), (nar .char 101), (nar .char 115), (nar .char 115), (nar .char 97), (nar .char 103), (nar .char 101), (nar .char 32), (nar .char (own_ch p2)), (nar .char (own_ch p3)), (nar .char 32), (nar .char 111), (nar .char 102), (nar .char 32), (nar .char 103), (nar .char 108), (nar .char 111), (nar .char 98), (nar .char 97), (nar .char 108), (nar .char 32), (nar .char 116), (nar .char 114), (nar .char 97), (nar .char 110), (nar .char 115), (nar .char 97), (nar .char 99), (nar .char 116), (nar .char 105), (nar .char 111), (nar .char 110), (nar .char 32), (nar .char (own_ch p4)), (nar .char (own_ch p5))] : List Int32) : List Int32)) (n := 47) rfl (fun c hc => (hp_b106 c hc).2)) (own_up hp_b106) (Nat.le_of_ble_eq_true rfl) (own_sta_keep0 (own_sta_keep1 ((((own_sta_keep1 ((own_sta_keep1 (((own_sta_keep1 (ck630_0.ext E106) K107 A106).ext E108).ext E109) K110 A109).ext E111) K112 A111).ext E113).ext E114).ext E115) K116 (((((((A108.ext E109).keep K110).ext E111).keep K112).ext E113).ext E114).ext E115)) K117) hzc (by decide) (by decide)) q118a q118c (g := (mkF m 688 #[.val (.int p1), .val (.int p2), .val (.int p3), .val (.int p4), .val (.int p5), .val (.int 0), .val (.int (own_ch p2)), .val (.int (own_ch p3)), .val (.int (own_ch p4)), .val (.int (own_ch p5)), .val (.ref b1), .val (.ref b6), .val (.ref b11), .val (.ref b106), .val (.ref b108), .val (.ref b_117)] [(.ref b106), (.ref b_117)])) rfl (by rw [hml]; rfl) (Steps.refl _) (argsL := [(.ref b106)]) (rest := []) (lenOf pd_29 rfl) rfl (by show 2 * 0 + _ ≤ _; exact Nat.le_of_eq rfl) (hb hby at_688) (fun _ _ => ⟨rfl, rfl, (by decide : 38 + 0 ≤ _), (by decide : 599 + 0 ≤ _)⟩)
  dsimp only [Pt.U, Pt.locs, Pt.cells, Pt.slots] at X118 l118 y118 z118 st118 hQ118
  subst l118 y118 z118
  obtain ⟨hcase, rfl, e118⟩ := hQ118
  have hv118 : _ = some (Value.int (1 : Int32)) := hcase.elim (fun q => q.1) (fun q => absurd rfl q.2)
  subst hv118
  have N118 := Fr.app N117 (Fr.nil n0)
  obtain ⟨fs, hr, hrun, hended, hR⟩ := X118.leaveW hS117 (by rw [e118]; exact (Nat.le_refl _)) (v := some (.int 1)) (fun h => by rw [Bd.returns] at h; cases h)
  refine ⟨_, _, pre0 _ ?_, hrun, hended, _, _, rfl, ?_, hR.1, hR.2.1, hR.2.2.1, hR.2.2.2.mono (by decide) (by decide)⟩
  · show Steps p.tables e below (s₁.setTop (mkF m 0 #[.val (.int p1), .val (.int p2), .val (.int p3), .val (.int p4), .val (.int p5), .unset, .unset, .unset, .unset, .unset, .unset, .unset, .unset, .unset, .unset, .unset] [])) _
    refine XS.iloadN X0w.here hx rfl (hb hby at_0) rfl ?_
    refine XS.iconst X0w.here hx rfl (hb hby at_1) ?_
    refine XS.iand X0w.here hx rfl (hb hby at_2) rfl ?_
    show Steps p.tables e below (s₁.setTop (mkF m 3 #[.val (.int p1), .val (.int p2), .val (.int p3), .val (.int p4), .val (.int p5), .unset, .unset, .unset, .unset, .unset, .unset, .unset, .unset, .unset, .unset, .unset] [(.int (p1 &&& (1 : Int32)))])) _
    refine XS.ifYes X0w.here hx rfl (pc0 := 3) (pc' := 10) rfl (hb hby at_3) rfl ((if0 _ _).trans (teq hc3).1) (by decide) (by decide) ?_
    show Steps p.tables e below (s₁.setTop (mkF m 10 #[.val (.int p1), .val (.int p2), .val (.int p3), .val (.int p4), .val (.int p5), .unset, .unset, .unset, .unset, .unset, .unset, .unset, .unset, .unset, .unset, .unset] [])) _
    refine XS.iconst X0w.here hx rfl (hb hby at_10) ?_
    refine XS.istore X0w.here hx rfl (hb hby at_11) rfl (l' := #[.val (.int p1), .val (.int p2), .val (.int p3), .val (.int p4), .val (.int p5), .val (.int 0), .unset, .unset, .unset, .unset, .unset, .unset, .unset, .unset, .unset, .unset]) rfl ?_
    show Steps p.tables e below (s₁.setTop (mkF m 13 #[.val (.int p1), .val (.int p2), .val (.int p3), .val (.int p4), .val (.int p5), .val (.int 0), .unset, .unset, .unset, .unset, .unset, .unset, .unset, .unset, .unset, .unset] [])) _
    refine XS.iloadN X0w.here hx rfl (hb hby at_13) rfl ?_
    refine XS.sipush X0w.here hx rfl (hb hby at_14) ?_
    refine XS.iand X0w.here hx rfl (hb hby at_17) rfl ?_
    show Steps p.tables e below (s₁.setTop (mkF m 18 #[.val (.int p1), .val (.int p2), .val (.int p3), .val (.int p4), .val (.int p5), .val (.int 0), .unset, .unset, .unset, .unset, .unset, .unset, .unset, .unset, .unset, .unset] [(.int (p2 &&& (255 : Int32)))])) _
    refine XS.i2c X0w.here hx rfl (hb hby at_18) rfl ?_
    show Steps p.tables e below (s₁.setTop (mkF m 19 #[.val (.int p1), .val (.int p2), .val (.int p3), .val (.int p4), .val (.int p5), .val (.int 0), .unset, .unset, .unset, .unset, .unset, .unset, .unset, .unset, .unset, .unset] [(.int (own_ch p2))])) _
    refine XS.istore X0w.here hx rfl (hb hby at_19) rfl (l' := #[.val (.int p1), .val (.int p2), .val (.int p3), .val (.int p4), .val (.int p5), .val (.int 0), .val (.int (own_ch p2)), .unset, .unset, .unset, .unset, .unset, .unset, .unset, .unset, .unset]) rfl ?_
    show Steps p.tables e below (s₁.setTop (mkF m 21 #[.val (.int p1), .val (.int p2), .val (.int p3), .val (.int p4), .val (.int p5), .val (.int 0), .val (.int (own_ch p2)), .unset, .unset, .unset, .unset, .unset, .unset, .unset, .unset, .unset] [])) _
    refine XS.iloadN X0w.here hx rfl (hb hby at_21) rfl ?_
    refine XS.sipush X0w.here hx rfl (hb hby at_22) ?_
    refine XS.iand X0w.here hx rfl (hb hby at_25) rfl ?_
    show Steps p.tables e below (s₁.setTop (mkF m 26 #[.val (.int p1), .val (.int p2), .val (.int p3), .val (.int p4), .val (.int p5), .val (.int 0), .val (.int (own_ch p2)), .unset, .unset, .unset, .unset, .unset, .unset, .unset, .unset, .unset] [(.int (p3 &&& (255 : Int32)))])) _
    refine XS.i2c X0w.here hx rfl (hb hby at_26) rfl ?_
    show Steps p.tables e below (s₁.setTop (mkF m 27 #[.val (.int p1), .val (.int p2), .val (.int p3), .val (.int p4), .val (.int p5), .val (.int 0), .val (.int (own_ch p2)), .unset, .unset, .unset, .unset, .unset, .unset, .unset, .unset, .unset] [(.int (own_ch p3))])) _
    refine XS.istore X0w.here hx rfl (hb hby at_27) rfl (l' := #[.val (.int p1), .val (.int p2), .val (.int p3), .val (.int p4), .val (.int p5), .val (.int 0), .val (.int (own_ch p2)), .val (.int (own_ch p3)), .unset, .unset, .unset, .unset, .unset, .unset, .unset, .unset]) rfl ?_
    show Steps p.tables e below (s₁.setTop (mkF m 29 #[.val (.int p1), .val (.int p2), .val (.int p3), .val (.int p4), .val (.int p5), .val (.int 0), .val (.int (own_ch p2)), .val (.int (own_ch p3)), .unset, .unset, .unset, .unset, .unset, .unset, .unset, .unset] [])) _
    refine XS.iloadN X0w.here hx rfl (hb hby at_29) rfl ?_
    refine XS.sipush X0w.here hx rfl (hb hby at_30) ?_
    refine XS.iand X0w.here hx rfl (hb hby at_33) rfl ?_
    show Steps p.tables e below (s₁.setTop (mkF m 34 #[.val (.int p1), .val (.int p2), .val (.int p3), .val (.int p4), .val (.int p5), .val (.int 0), .val (.int (own_ch p2)), .val (.int (own_ch p3)), .unset, .unset, .unset, .unset, .unset, .unset, .unset, .unset] [(.int (p4 &&& (255 : Int32)))])) _
    refine XS.i2c X0w.here hx rfl (hb hby at_34) rfl ?_
    show Steps p.tables e below (s₁.setTop (mkF m 35 #[.val (.int p1), .val (.int p2), .val (.int p3), .val (.int p4), .val (.int p5), .val (.int 0), .val (.int (own_ch p2)), .val (.int (own_ch p3)), .unset, .unset, .unset, .unset, .unset, .unset, .unset, .unset] [(.int (own_ch p4))])) _
    refine XS.istore X0w.here hx rfl (hb hby at_35) rfl (l' := #[.val (.int p1), .val (.int p2), .val (.int p3), .val (.int p4), .val (.int p5), .val (.int 0), .val (.int (own_ch p2)), .val (.int (own_ch p3)), .val (.int (own_ch p4)), .unset, .unset, .unset, .unset, .unset, .unset, .unset]) rfl ?_
    show Steps p.tables e below (s₁.setTop (mkF m 37 #[.val (.int p1), .val (.int p2), .val (.int p3), .val (.int p4), .val (.int p5), .val (.int 0), .val (.int (own_ch p2)), .val (.int (own_ch p3)), .val (.int (own_ch p4)), .unset, .unset, .unset, .unset, .unset, .unset, .unset] [])) _
    refine XS.iload X0w.here hx rfl (hb hby at_37) rfl ?_
    refine XS.sipush X0w.here hx rfl (hb hby at_39) ?_
    refine XS.iand X0w.here hx rfl (hb hby at_42) rfl ?_
    show Steps p.tables e below (s₁.setTop (mkF m 43 #[.val (.int p1), .val (.int p2), .val (.int p3), .val (.int p4), .val (.int p5), .val (.int 0), .val (.int (own_ch p2)), .val (.int (own_ch p3)), .val (.int (own_ch p4)), .unset, .unset, .unset, .unset, .unset, .unset, .unset] [(.int (p5 &&& (255 : Int32)))])) _
    refine XS.i2c X0w.here hx rfl (hb hby at_43) rfl ?_
    show Steps p.tables e below (s₁.setTop (mkF m 44 #[.val (.int p1), .val (.int p2), .val (.int p3), .val (.int p4), .val (.int p5), .val (.int 0), .val (.int (own_ch p2)), .val (.int (own_ch p3)), .val (.int (own_ch p4)), .unset, .unset, .unset, .unset, .unset, .unset, .unset] [(.int (own_ch p5))])) _
    refine XS.istore X0w.here hx rfl (hb hby at_44) rfl (l' := #[.val (.int p1), .val (.int p2), .val (.int p3), .val (.int p4), .val (.int p5), .val (.int 0), .val (.int (own_ch p2)), .val (.int (own_ch p3)), .val (.int (own_ch p4)), .val (.int (own_ch p5)), .unset, .unset, .unset, .unset, .unset, .unset]) rfl ?_
    show Steps p.tables e below (s₁.setTop (mkF m 46 #[.val (.int p1), .val (.int p2), .val (.int p3), .val (.int p4), .val (.int p5), .val (.int 0), .val (.int (own_ch p2)), .val (.int (own_ch p3)), .val (.int (own_ch p4)), .val (.int (own_ch p5)), .unset, .unset, .unset, .unset, .unset, .unset] [])) _
    refine XS.iconst X0w.here hx rfl (hb hby at_46) ?_
    refine st1 _ ?_
    show Steps p.tables e below (T1.setTop (mkF m 49 #[.val (.int p1), .val (.int p2), .val (.int p3), .val (.int p4), .val (.int p5), .val (.int 0), .val (.int (own_ch p2)), .val (.int (own_ch p3)), .val (.int (own_ch p4)), .val (.int (own_ch p5)), .unset, .unset, .unset, .unset, .unset, .unset] [(.ref b1)])) _
    refine XS.dup X1.here hx rfl (hb hby at_49) rfl rfl ?_
    refine XS.iconst X1.here hx rfl (hb hby at_50) ?_
    refine XS.iload X1.here hx rfl (hb hby at_51) rfl ?_
    refine st3 _ ?_
    show Steps p.tables e below (T3.setTop (mkF m 54 #[.val (.int p1), .val (.int p2), .val (.int p3), .val (.int p4), .val (.int p5), .val (.int 0), .val (.int (own_ch p2)), .val (.int (own_ch p3)), .val (.int (own_ch p4)), .val (.int (own_ch p5)), .unset, .unset, .unset, .unset, .unset, .unset] [(.ref b1)])) _
    refine XS.dup X3.here hx rfl (hb hby at_54) rfl rfl ?_
    refine XS.iconst X3.here hx rfl (hb hby at_55) ?_
    refine XS.iload X3.here hx rfl (hb hby at_56) rfl ?_
    refine st5 _ ?_
    show Steps p.tables e below (T5.setTop (mkF m 59 #[.val (.int p1), .val (.int p2), .val (.int p3), .val (.int p4), .val (.int p5), .val (.int 0), .val (.int (own_ch p2)), .val (.int (own_ch p3)), .val (.int (own_ch p4)), .val (.int (own_ch p5)), .unset, .unset, .unset, .unset, .unset, .unset] [(.ref b1)])) _
    refine XS.astore X5.here hx rfl (hb hby at_59) rfl rfl (l' := #[.val (.int p1), .val (.int p2), .val (.int p3), .val (.int p4), .val (.int p5), .val (.int 0), .val (.int (own_ch p2)), .val (.int (own_ch p3)), .val (.int (own_ch p4)), .val (.int (own_ch p5)), .val (.ref b1), .unset, .unset, .unset, .unset, .unset]) rfl ?_
    show Steps p.tables e below (T5.setTop (mkF m 61 #[.val (.int p1), .val (.int p2), .val (.int p3), .val (.int p4), .val (.int p5), .val (.int 0), .val (.int (own_ch p2)), .val (.int (own_ch p3)), .val (.int (own_ch p4)), .val (.int (own_ch p5)), .val (.ref b1), .unset, .unset, .unset, .unset, .unset] [])) _
    refine XS.iconst X5.here hx rfl (hb hby at_61) ?_
    refine st6 _ ?_
    show Steps p.tables e below (T6.setTop (mkF m 64 #[.val (.int p1), .val (.int p2), .val (.int p3), .val (.int p4), .val (.int p5), .val (.int 0), .val (.int (own_ch p2)), .val (.int (own_ch p3)), .val (.int (own_ch p4)), .val (.int (own_ch p5)), .val (.ref b1), .unset, .unset, .unset, .unset, .unset] [(.ref b6)])) _
    refine XS.dup X6.here hx rfl (hb hby at_64) rfl rfl ?_
    refine XS.iconst X6.here hx rfl (hb hby at_65) ?_
    refine XS.iload X6.here hx rfl (hb hby at_66) rfl ?_
    refine st8 _ ?_
    show Steps p.tables e below (T8.setTop (mkF m 69 #[.val (.int p1), .val (.int p2), .val (.int p3), .val (.int p4), .val (.int p5), .val (.int 0), .val (.int (own_ch p2)), .val (.int (own_ch p3)), .val (.int (own_ch p4)), .val (.int (own_ch p5)), .val (.ref b1), .unset, .unset, .unset, .unset, .unset] [(.ref b6)])) _
    refine XS.dup X8.here hx rfl (hb hby at_69) rfl rfl ?_
    refine XS.iconst X8.here hx rfl (hb hby at_70) ?_
    refine XS.iload X8.here hx rfl (hb hby at_71) rfl ?_
    refine st10 _ ?_
    show Steps p.tables e below (T10.setTop (mkF m 74 #[.val (.int p1), .val (.int p2), .val (.int p3), .val (.int p4), .val (.int p5), .val (.int 0), .val (.int (own_ch p2)), .val (.int (own_ch p3)), .val (.int (own_ch p4)), .val (.int (own_ch p5)), .val (.ref b1), .unset, .unset, .unset, .unset, .unset] [(.ref b6)])) _
    refine XS.astore X10.here hx rfl (hb hby at_74) rfl rfl (l' := #[.val (.int p1), .val (.int p2), .val (.int p3), .val (.int p4), .val (.int p5), .val (.int 0), .val (.int (own_ch p2)), .val (.int (own_ch p3)), .val (.int (own_ch p4)), .val (.int (own_ch p5)), .val (.ref b1), .val (.ref b6), .unset, .unset, .unset, .unset]) rfl ?_
    show Steps p.tables e below (T10.setTop (mkF m 76 (own_F0 p1 p2 p3 p4 p5 b1 b6) [])) _
    refine XS.iload X10.here hx rfl (hb hby at_76) rfl ?_
    refine XS.ifYes X10.here hx rfl (pc0 := 78) (pc' := 348) rfl (hb hby at_78) rfl ((if0 _ _).trans (teq (by decide : (0 : Int32) = (0 : Int32))).1) (by decide) (by decide) ?_
    show Steps p.tables e below (T10.setTop (mkF m 348 (own_F0 p1 p2 p3 p4 p5 b1 b6) [])) _
    refine XS.bipush X10.here hx rfl (hb hby at_348) ?_
    refine st11 _ ?_
    show Steps p.tables e below (T11.setTop (mkF m 352 (own_F0 p1 p2 p3 p4 p5 b1 b6) [(.ref b11)])) _
    refine XS.dup X11.here hx rfl (hb hby at_352) rfl rfl ?_
    refine XS.iconst X11.here hx rfl (hb hby at_353) ?_
    refine XS.bipush X11.here hx rfl (hb hby at_354) ?_
    refine st13 _ ?_
    show Steps p.tables e below (T13.setTop (mkF m 357 (own_F0 p1 p2 p3 p4 p5 b1 b6) [(.ref b11)])) _
    refine XS.dup X13.here hx rfl (hb hby at_357) rfl rfl ?_
    refine XS.iconst X13.here hx rfl (hb hby at_358) ?_
    refine XS.bipush X13.here hx rfl (hb hby at_359) ?_
    refine st15 _ ?_
    show Steps p.tables e below (T15.setTop (mkF m 362 (own_F0 p1 p2 p3 p4 p5 b1 b6) [(.ref b11)])) _
    refine XS.dup X15.here hx rfl (hb hby at_362) rfl rfl ?_
    refine XS.iconst X15.here hx rfl (hb hby at_363) ?_
    refine XS.bipush X15.here hx rfl (hb hby at_364) ?_
    refine st17 _ ?_
    show Steps p.tables e below (T17.setTop (mkF m 367 (own_F0 p1 p2 p3 p4 p5 b1 b6) [(.ref b11)])) _
    refine XS.dup X17.here hx rfl (hb hby at_367) rfl rfl ?_
    refine XS.iconst X17.here hx rfl (hb hby at_368) ?_
    refine XS.bipush X17.here hx rfl (hb hby at_369) ?_
    refine st19 _ ?_
    show Steps p.tables e below (T19.setTop (mkF m 372 (own_F0 p1 p2 p3 p4 p5 b1 b6) [(.ref b11)])) _
    refine XS.dup X19.here hx rfl (hb hby at_372) rfl rfl ?_
    refine XS.iconst X19.here hx rfl (hb hby at_373) ?_
    refine XS.bipush X19.here hx rfl (hb hby at_374) ?_
    refine st21 _ ?_
    show Steps p.tables e below (T21.setTop (mkF m 377 (own_F0 p1 p2 p3 p4 p5 b1 b6) [(.ref b11)])) _
    refine XS.dup X21.here hx rfl (hb hby at_377) rfl rfl ?_
    refine XS.iconst X21.here hx rfl (hb hby at_378) ?_
    refine XS.bipush X21.here hx rfl (hb hby at_379) ?_
    refine st23 _ ?_
    show Steps p.tables e below (T23.setTop (mkF m 382 (own_F0 p1 p2 p3 p4 p5 b1 b6) [(.ref b11)])) _
    refine XS.dup X23.here hx rfl (hb hby at_382) rfl rfl ?_
    refine XS.bipush X23.here hx rfl (hb hby at_383) ?_
    refine XS.bipush X23.here hx rfl (hb hby at_385) ?_
    refine st25 _ ?_
    show Steps p.tables e below (T25.setTop (mkF m 388 (own_F0 p1 p2 p3 p4 p5 b1 b6) [(.ref b11)])) _
    refine XS.dup X25.here hx rfl (hb hby at_388) rfl rfl ?_
    refine XS.bipush X25.here hx rfl (hb hby at_389) ?_
    refine XS.bipush X25.here hx rfl (hb hby at_391) ?_
    refine st27 _ ?_
    show Steps p.tables e below (T27.setTop (mkF m 394 (own_F0 p1 p2 p3 p4 p5 b1 b6) [(.ref b11)])) _
    refine XS.dup X27.here hx rfl (hb hby at_394) rfl rfl ?_
    refine XS.bipush X27.here hx rfl (hb hby at_395) ?_
    refine XS.bipush X27.here hx rfl (hb hby at_397) ?_
    refine st29 _ ?_
    show Steps p.tables e below (T29.setTop (mkF m 400 (own_F0 p1 p2 p3 p4 p5 b1 b6) [(.ref b11)])) _
    refine XS.dup X29.here hx rfl (hb hby at_400) rfl rfl ?_
    refine XS.bipush X29.here hx rfl (hb hby at_401) ?_
    refine XS.bipush X29.here hx rfl (hb hby at_403) ?_
    refine st31 _ ?_
    show Steps p.tables e below (T31.setTop (mkF m 406 (own_F0 p1 p2 p3 p4 p5 b1 b6) [(.ref b11)])) _
    refine XS.dup X31.here hx rfl (hb hby at_406) rfl rfl ?_
    refine XS.bipush X31.here hx rfl (hb hby at_407) ?_
    refine XS.bipush X31.here hx rfl (hb hby at_409) ?_
    refine st33 _ ?_
    show Steps p.tables e below (T33.setTop (mkF m 412 (own_F0 p1 p2 p3 p4 p5 b1 b6) [(.ref b11)])) _
    refine XS.dup X33.here hx rfl (hb hby at_412) rfl rfl ?_
    refine XS.bipush X33.here hx rfl (hb hby at_413) ?_
    refine XS.bipush X33.here hx rfl (hb hby at_415) ?_
    refine st35 _ ?_
    show Steps p.tables e below (T35.setTop (mkF m 418 (own_F0 p1 p2 p3 p4 p5 b1 b6) [(.ref b11)])) _
    refine XS.dup X35.here hx rfl (hb hby at_418) rfl rfl ?_
    refine XS.bipush X35.here hx rfl (hb hby at_419) ?_
    refine XS.bipush X35.here hx rfl (hb hby at_421) ?_
    refine st37 _ ?_
    show Steps p.tables e below (T37.setTop (mkF m 424 (own_F0 p1 p2 p3 p4 p5 b1 b6) [(.ref b11)])) _
    refine XS.dup X37.here hx rfl (hb hby at_424) rfl rfl ?_
    refine XS.bipush X37.here hx rfl (hb hby at_425) ?_
    refine XS.bipush X37.here hx rfl (hb hby at_427) ?_
    refine st39 _ ?_
    show Steps p.tables e below (T39.setTop (mkF m 430 (own_F0 p1 p2 p3 p4 p5 b1 b6) [(.ref b11)])) _
    refine XS.dup X39.here hx rfl (hb hby at_430) rfl rfl ?_
    refine XS.bipush X39.here hx rfl (hb hby at_431) ?_
    refine XS.bipush X39.here hx rfl (hb hby at_433) ?_
    refine st41 _ ?_
    show Steps p.tables e below (T41.setTop (mkF m 436 (own_F0 p1 p2 p3 p4 p5 b1 b6) [(.ref b11)])) _
    refine XS.dup X41.here hx rfl (hb hby at_436) rfl rfl ?_
    refine XS.bipush X41.here hx rfl (hb hby at_437) ?_
    refine XS.bipush X41.here hx rfl (hb hby at_439) ?_
    refine st43 _ ?_
    show Steps p.tables e below (T43.setTop (mkF m 442 (own_F0 p1 p2 p3 p4 p5 b1 b6) [(.ref b11)])) _
    refine XS.dup X43.here hx rfl (hb hby at_442) rfl rfl ?_
    refine XS.bipush X43.here hx rfl (hb hby at_443) ?_
    refine XS.bipush X43.here hx rfl (hb hby at_445) ?_
    refine st45 _ ?_
    show Steps p.tables e below (T45.setTop (mkF m 448 (own_F0 p1 p2 p3 p4 p5 b1 b6) [(.ref b11)])) _
    refine XS.dup X45.here hx rfl (hb hby at_448) rfl rfl ?_
    refine XS.bipush X45.here hx rfl (hb hby at_449) ?_
    refine XS.bipush X45.here hx rfl (hb hby at_451) ?_
    refine st47 _ ?_
    show Steps p.tables e below (T47.setTop (mkF m 454 (own_F0 p1 p2 p3 p4 p5 b1 b6) [(.ref b11)])) _
    refine XS.dup X47.here hx rfl (hb hby at_454) rfl rfl ?_
    refine XS.bipush X47.here hx rfl (hb hby at_455) ?_
    refine XS.bipush X47.here hx rfl (hb hby at_457) ?_
    refine st49 _ ?_
    show Steps p.tables e below (T49.setTop (mkF m 460 (own_F0 p1 p2 p3 p4 p5 b1 b6) [(.ref b11)])) _
    refine XS.dup X49.here hx rfl (hb hby at_460) rfl rfl ?_
    refine XS.bipush X49.here hx rfl (hb hby at_461) ?_
    refine XS.bipush X49.here hx rfl (hb hby at_463) ?_
    refine st51 _ ?_
    show Steps p.tables e below (T51.setTop (mkF m 466 (own_F0 p1 p2 p3 p4 p5 b1 b6) [(.ref b11)])) _
    refine XS.dup X51.here hx rfl (hb hby at_466) rfl rfl ?_
    refine XS.bipush X51.here hx rfl (hb hby at_467) ?_
    refine XS.iload X51.here hx rfl (hb hby at_469) rfl ?_
    refine st53 _ ?_
    show Steps p.tables e below (T53.setTop (mkF m 472 (own_F0 p1 p2 p3 p4 p5 b1 b6) [(.ref b11)])) _
    refine XS.dup X53.here hx rfl (hb hby at_472) rfl rfl ?_
    refine XS.bipush X53.here hx rfl (hb hby at_473) ?_
    refine XS.iload X53.here hx rfl (hb hby at_475) rfl ?_
    refine st55 _ ?_
    show Steps p.tables e below (T55.setTop (mkF m 478 (own_F0 p1 p2 p3 p4 p5 b1 b6) [(.ref b11)])) _
    refine XS.dup X55.here hx rfl (hb hby at_478) rfl rfl ?_
    refine XS.bipush X55.here hx rfl (hb hby at_479) ?_
    refine XS.bipush X55.here hx rfl (hb hby at_481) ?_
    refine st57 _ ?_
    show Steps p.tables e below (T57.setTop (mkF m 484 (own_F0 p1 p2 p3 p4 p5 b1 b6) [(.ref b11)])) _
    refine XS.dup X57.here hx rfl (hb hby at_484) rfl rfl ?_
    refine XS.bipush X57.here hx rfl (hb hby at_485) ?_
    refine XS.bipush X57.here hx rfl (hb hby at_487) ?_
    refine st59 _ ?_
    show Steps p.tables e below (T59.setTop (mkF m 490 (own_F0 p1 p2 p3 p4 p5 b1 b6) [(.ref b11)])) _
    refine XS.dup X59.here hx rfl (hb hby at_490) rfl rfl ?_
    refine XS.bipush X59.here hx rfl (hb hby at_491) ?_
    refine XS.bipush X59.here hx rfl (hb hby at_493) ?_
    refine st61 _ ?_
    show Steps p.tables e below (T61.setTop (mkF m 496 (own_F0 p1 p2 p3 p4 p5 b1 b6) [(.ref b11)])) _
    refine XS.dup X61.here hx rfl (hb hby at_496) rfl rfl ?_
    refine XS.bipush X61.here hx rfl (hb hby at_497) ?_
    refine XS.bipush X61.here hx rfl (hb hby at_499) ?_
    refine st63 _ ?_
    show Steps p.tables e below (T63.setTop (mkF m 502 (own_F0 p1 p2 p3 p4 p5 b1 b6) [(.ref b11)])) _
    refine XS.dup X63.here hx rfl (hb hby at_502) rfl rfl ?_
    refine XS.bipush X63.here hx rfl (hb hby at_503) ?_
    refine XS.bipush X63.here hx rfl (hb hby at_505) ?_
    refine st65 _ ?_
    show Steps p.tables e below (T65.setTop (mkF m 508 (own_F0 p1 p2 p3 p4 p5 b1 b6) [(.ref b11)])) _
    refine XS.dup X65.here hx rfl (hb hby at_508) rfl rfl ?_
    refine XS.bipush X65.here hx rfl (hb hby at_509) ?_
    refine XS.bipush X65.here hx rfl (hb hby at_511) ?_
    refine st67 _ ?_
    show Steps p.tables e below (T67.setTop (mkF m 514 (own_F0 p1 p2 p3 p4 p5 b1 b6) [(.ref b11)])) _
    refine XS.dup X67.here hx rfl (hb hby at_514) rfl rfl ?_
    refine XS.bipush X67.here hx rfl (hb hby at_515) ?_
    refine XS.bipush X67.here hx rfl (hb hby at_517) ?_
    refine st69 _ ?_
    show Steps p.tables e below (T69.setTop (mkF m 520 (own_F0 p1 p2 p3 p4 p5 b1 b6) [(.ref b11)])) _
    refine XS.dup X69.here hx rfl (hb hby at_520) rfl rfl ?_
    refine XS.bipush X69.here hx rfl (hb hby at_521) ?_
    refine XS.bipush X69.here hx rfl (hb hby at_523) ?_
    refine st71 _ ?_
    show Steps p.tables e below (T71.setTop (mkF m 526 (own_F0 p1 p2 p3 p4 p5 b1 b6) [(.ref b11)])) _
    refine XS.dup X71.here hx rfl (hb hby at_526) rfl rfl ?_
    refine XS.bipush X71.here hx rfl (hb hby at_527) ?_
    refine XS.bipush X71.here hx rfl (hb hby at_529) ?_
    refine st73 _ ?_
    show Steps p.tables e below (T73.setTop (mkF m 532 (own_F0 p1 p2 p3 p4 p5 b1 b6) [(.ref b11)])) _
    refine XS.dup X73.here hx rfl (hb hby at_532) rfl rfl ?_
    refine XS.bipush X73.here hx rfl (hb hby at_533) ?_
    refine XS.bipush X73.here hx rfl (hb hby at_535) ?_
    refine st75 _ ?_
    show Steps p.tables e below (T75.setTop (mkF m 538 (own_F0 p1 p2 p3 p4 p5 b1 b6) [(.ref b11)])) _
    refine XS.dup X75.here hx rfl (hb hby at_538) rfl rfl ?_
    refine XS.bipush X75.here hx rfl (hb hby at_539) ?_
    refine XS.bipush X75.here hx rfl (hb hby at_541) ?_
    refine st77 _ ?_
    show Steps p.tables e below (T77.setTop (mkF m 544 (own_F0 p1 p2 p3 p4 p5 b1 b6) [(.ref b11)])) _
    refine XS.dup X77.here hx rfl (hb hby at_544) rfl rfl ?_
    refine XS.bipush X77.here hx rfl (hb hby at_545) ?_
    refine XS.bipush X77.here hx rfl (hb hby at_547) ?_
    refine st79 _ ?_
    show Steps p.tables e below (T79.setTop (mkF m 550 (own_F0 p1 p2 p3 p4 p5 b1 b6) [(.ref b11)])) _
    refine XS.dup X79.here hx rfl (hb hby at_550) rfl rfl ?_
    refine XS.bipush X79.here hx rfl (hb hby at_551) ?_
    refine XS.bipush X79.here hx rfl (hb hby at_553) ?_
    refine st81 _ ?_
    show Steps p.tables e below (T81.setTop (mkF m 556 (own_F0 p1 p2 p3 p4 p5 b1 b6) [(.ref b11)])) _
    refine XS.dup X81.here hx rfl (hb hby at_556) rfl rfl ?_
    refine XS.bipush X81.here hx rfl (hb hby at_557) ?_
    refine XS.bipush X81.here hx rfl (hb hby at_559) ?_
    refine st83 _ ?_
    show Steps p.tables e below (T83.setTop (mkF m 562 (own_F0 p1 p2 p3 p4 p5 b1 b6) [(.ref b11)])) _
    refine XS.dup X83.here hx rfl (hb hby at_562) rfl rfl ?_
    refine XS.bipush X83.here hx rfl (hb hby at_563) ?_
    refine XS.bipush X83.here hx rfl (hb hby at_565) ?_
    refine st85 _ ?_
    show Steps p.tables e below (T85.setTop (mkF m 568 (own_F0 p1 p2 p3 p4 p5 b1 b6) [(.ref b11)])) _
    refine XS.dup X85.here hx rfl (hb hby at_568) rfl rfl ?_
    refine XS.bipush X85.here hx rfl (hb hby at_569) ?_
    refine XS.bipush X85.here hx rfl (hb hby at_571) ?_
    refine st87 _ ?_
    show Steps p.tables e below (T87.setTop (mkF m 574 (own_F0 p1 p2 p3 p4 p5 b1 b6) [(.ref b11)])) _
    refine XS.dup X87.here hx rfl (hb hby at_574) rfl rfl ?_
    refine XS.bipush X87.here hx rfl (hb hby at_575) ?_
    refine XS.bipush X87.here hx rfl (hb hby at_577) ?_
    refine st89 _ ?_
    show Steps p.tables e below (T89.setTop (mkF m 580 (own_F0 p1 p2 p3 p4 p5 b1 b6) [(.ref b11)])) _
    refine XS.dup X89.here hx rfl (hb hby at_580) rfl rfl ?_
    refine XS.bipush X89.here hx rfl (hb hby at_581) ?_
    refine XS.bipush X89.here hx rfl (hb hby at_583) ?_
    refine st91 _ ?_
    show Steps p.tables e below (T91.setTop (mkF m 586 (own_F0 p1 p2 p3 p4 p5 b1 b6) [(.ref b11)])) _
    refine XS.dup X91.here hx rfl (hb hby at_586) rfl rfl ?_
    refine XS.bipush X91.here hx rfl (hb hby at_587) ?_
    refine XS.bipush X91.here hx rfl (hb hby at_589) ?_
    refine st93 _ ?_
    show Steps p.tables e below (T93.setTop (mkF m 592 (own_F0 p1 p2 p3 p4 p5 b1 b6) [(.ref b11)])) _
    refine XS.dup X93.here hx rfl (hb hby at_592) rfl rfl ?_
    refine XS.bipush X93.here hx rfl (hb hby at_593) ?_
    refine XS.bipush X93.here hx rfl (hb hby at_595) ?_
    refine st95 _ ?_
    show Steps p.tables e below (T95.setTop (mkF m 598 (own_F0 p1 p2 p3 p4 p5 b1 b6) [(.ref b11)])) _
    refine XS.dup X95.here hx rfl (hb hby at_598) rfl rfl ?_
    refine XS.bipush X95.here hx rfl (hb hby at_599) ?_
    refine XS.bipush X95.here hx rfl (hb hby at_601) ?_
    refine st97 _ ?_
    show Steps p.tables e below (T97.setTop (mkF m 604 (own_F0 p1 p2 p3 p4 p5 b1 b6) [(.ref b11)])) _
    refine XS.dup X97.here hx rfl (hb hby at_604) rfl rfl ?_
    refine XS.bipush X97.here hx rfl (hb hby at_605) ?_
    refine XS.bipush X97.here hx rfl (hb hby at_607) ?_
    refine st99 _ ?_
    show Steps p.tables e below (T99.setTop (mkF m 610 (own_F0 p1 p2 p3 p4 p5 b1 b6) [(.ref b11)])) _
    refine XS.dup X99.here hx rfl (hb hby at_610) rfl rfl ?_
    refine XS.bipush X99.here hx rfl (hb hby at_611) ?_
    refine XS.bipush X99.here hx rfl (hb hby at_613) ?_
    refine st101 _ ?_
    show Steps p.tables e below (T101.setTop (mkF m 616 (own_F0 p1 p2 p3 p4 p5 b1 b6) [(.ref b11)])) _
    refine XS.dup X101.here hx rfl (hb hby at_616) rfl rfl ?_
    refine XS.bipush X101.here hx rfl (hb hby at_617) ?_
    refine XS.iload X101.here hx rfl (hb hby at_619) rfl ?_
    refine st103 _ ?_
    show Steps p.tables e below (T103.setTop (mkF m 622 (own_F0 p1 p2 p3 p4 p5 b1 b6) [(.ref b11)])) _
    refine XS.dup X103.here hx rfl (hb hby at_622) rfl rfl ?_
    refine XS.bipush X103.here hx rfl (hb hby at_623) ?_
    refine XS.iload X103.here hx rfl (hb hby at_625) rfl ?_
    refine st105 _ ?_
    show Steps p.tables e below (T105.setTop (mkF m 628 #[.val (.int p1), .val (.int p2), .val (.int p3), .val (.int p4), .val (.int p5), .val (.int 0), .val (.int (own_ch p2)), .val (.int (own_ch p3)), .val (.int (own_ch p4)), .val (.int (own_ch p5)), .val (.ref b1), .val (.ref b6), .unset, .unset, .unset, .unset] [(.ref b11)])) _
    refine XS.astore X105.here hx rfl (hb hby at_628) rfl rfl (l' := #[.val (.int p1), .val (.int p2), .val (.int p3), .val (.int p4), .val (.int p5), .val (.int 0), .val (.int (own_ch p2)), .val (.int (own_ch p3)), .val (.int (own_ch p4)), .val (.int (own_ch p5)), .val (.ref b1), .val (.ref b6), .val (.ref b11), .unset, .unset, .unset]) rfl ?_
    show Steps p.tables e below (T105.setTop (mkF m 630 #[.val (.int p1), .val (.int p2), .val (.int p3), .val (.int p4), .val (.int p5), .val (.int 0), .val (.int (own_ch p2)), .val (.int (own_ch p3)), .val (.int (own_ch p4)), .val (.int (own_ch p5)), .val (.ref b1), .val (.ref b6), .val (.ref b11), .unset, .unset, .unset] [])) _
    refine st106 _ ?_
    show Steps p.tables e below (T106.setTop (mkF m 633 #[.val (.int p1), .val (.int p2), .val (.int p3), .val (.int p4), .val (.int p5), .val (.int 0), .val (.int (own_ch p2)), .val (.int (own_ch p3)), .val (.int (own_ch p4)), .val (.int (own_ch p5)), .val (.ref b1), .val (.ref b6), .val (.ref b11), .unset, .unset, .unset] [(.ref b106)])) _
    refine XS.dup X106.here hx rfl (hb hby at_633) rfl rfl ?_
    refine XS.aload X106.here hx rfl (hb hby at_634) rfl rfl ?_
    refine st107.trans ?_
    show Steps p.tables e below (T107.setTop (mkF m 639 #[.val (.int p1), .val (.int p2), .val (.int p3), .val (.int p4), .val (.int p5), .val (.int 0), .val (.int (own_ch p2)), .val (.int (own_ch p3)), .val (.int (own_ch p4)), .val (.int (own_ch p5)), .val (.ref b1), .val (.ref b6), .val (.ref b11), .unset, .unset, .unset] [(.ref b106)])) _
    refine XS.astore X107.here hx rfl (hb hby at_639) rfl rfl (l' := #[.val (.int p1), .val (.int p2), .val (.int p3), .val (.int p4), .val (.int p5), .val (.int 0), .val (.int (own_ch p2)), .val (.int (own_ch p3)), .val (.int (own_ch p4)), .val (.int (own_ch p5)), .val (.ref b1), .val (.ref b6), .val (.ref b11), .val (.ref b106), .unset, .unset]) rfl ?_
    show Steps p.tables e below (T107.setTop (mkF m 641 #[.val (.int p1), .val (.int p2), .val (.int p3), .val (.int p4), .val (.int p5), .val (.int 0), .val (.int (own_ch p2)), .val (.int (own_ch p3)), .val (.int (own_ch p4)), .val (.int (own_ch p5)), .val (.ref b1), .val (.ref b6), .val (.ref b11), .val (.ref b106), .unset, .unset] [])) _
    refine st108 _ ?_
    show Steps p.tables e below (T108.setTop (mkF m 644 #[.val (.int p1), .val (.int p2), .val (.int p3), .val (.int p4), .val (.int p5), .val (.int 0), .val (.int (own_ch p2)), .val (.int (own_ch p3)), .val (.int (own_ch p4)), .val (.int (own_ch p5)), .val (.ref b1), .val (.ref b6), .val (.ref b11), .val (.ref b106), .unset, .unset] [(.ref b108)])) _
    refine XS.dup X108.here hx rfl (hb hby at_644) rfl rfl ?_
    refine st109 _ ?_
    show Steps p.tables e below (T109.setTop (mkF m 648 #[.val (.int p1), .val (.int p2), .val (.int p3), .val (.int p4), .val (.int p5), .val (.int 0), .val (.int (own_ch p2)), .val (.int (own_ch p3)), .val (.int (own_ch p4)), .val (.int (own_ch p5)), .val (.ref b1), .val (.ref b6), .val (.ref b11), .val (.ref b106), .unset, .unset] [(.ref b109), (.ref b108), (.ref b108)])) _
    refine XS.dup X109.here hx rfl (hb hby at_648) rfl rfl ?_
    refine XS.aload X109.here hx rfl (hb hby at_649) rfl rfl ?_
    refine st110.trans ?_
    show Steps p.tables e below (T110.setTop (mkF m 654 #[.val (.int p1), .val (.int p2), .val (.int p3), .val (.int p4), .val (.int p5), .val (.int 0), .val (.int (own_ch p2)), .val (.int (own_ch p3)), .val (.int (own_ch p4)), .val (.int (own_ch p5)), .val (.ref b1), .val (.ref b6), .val (.ref b11), .val (.ref b106), .unset, .unset] [(.ref b109), (.ref b108), (.ref b108)])) _
    refine st111 _ ?_
    show Steps p.tables e below (T111.setTop (mkF m 657 #[.val (.int p1), .val (.int p2), .val (.int p3), .val (.int p4), .val (.int p5), .val (.int 0), .val (.int (own_ch p2)), .val (.int (own_ch p3)), .val (.int (own_ch p4)), .val (.int (own_ch p5)), .val (.ref b1), .val (.ref b6), .val (.ref b11), .val (.ref b106), .unset, .unset] [(.ref b111), (.ref b109), (.ref b108), (.ref b108)])) _
    refine XS.dup X111.here hx rfl (hb hby at_657) rfl rfl ?_
    refine XS.aload X111.here hx rfl (hb hby at_658) rfl rfl ?_
    refine st112.trans ?_
    show Steps p.tables e below (T112.setTop (mkF m 663 #[.val (.int p1), .val (.int p2), .val (.int p3), .val (.int p4), .val (.int p5), .val (.int 0), .val (.int (own_ch p2)), .val (.int (own_ch p3)), .val (.int (own_ch p4)), .val (.int (own_ch p5)), .val (.ref b1), .val (.ref b6), .val (.ref b11), .val (.ref b106), .unset, .unset] [(.ref b111), (.ref b109), (.ref b108), (.ref b108)])) _
    refine XS.iload X112.here hx rfl (hb hby at_663) rfl ?_
    refine st113 _ ?_
    show Steps p.tables e below (T113.setTop (mkF m 667 #[.val (.int p1), .val (.int p2), .val (.int p3), .val (.int p4), .val (.int p5), .val (.int 0), .val (.int (own_ch p2)), .val (.int (own_ch p3)), .val (.int (own_ch p4)), .val (.int (own_ch p5)), .val (.ref b1), .val (.ref b6), .val (.ref b11), .val (.ref b106), .unset, .unset] [(.ref b113), (.int 0), (.ref b111), (.ref b109), (.ref b108), (.ref b108)])) _
    refine st114 _ ?_
    show Steps p.tables e below (T114.setTop (mkF m 669 #[.val (.int p1), .val (.int p2), .val (.int p3), .val (.int p4), .val (.int p5), .val (.int 0), .val (.int (own_ch p2)), .val (.int (own_ch p3)), .val (.int (own_ch p4)), .val (.int (own_ch p5)), .val (.ref b1), .val (.ref b6), .val (.ref b11), .val (.ref b106), .unset, .unset] [(.ref b114), (.ref b113), (.int 0), (.ref b111), (.ref b109), (.ref b108), (.ref b108)])) _
    refine XS.iconst X114.here hx rfl (hb hby at_669) ?_
    refine st115 _ ?_
    show Steps p.tables e below (T115.setTop (mkF m 672 #[.val (.int p1), .val (.int p2), .val (.int p3), .val (.int p4), .val (.int p5), .val (.int 0), .val (.int (own_ch p2)), .val (.int (own_ch p3)), .val (.int (own_ch p4)), .val (.int (own_ch p5)), .val (.ref b1), .val (.ref b6), .val (.ref b11), .val (.ref b106), .unset, .unset] [(.ref b115), (.ref b114), (.ref b113), (.int 0), (.ref b111), (.ref b109), (.ref b108), (.ref b108)])) _
    refine st116.trans ?_
    show Steps p.tables e below (T116.setTop (mkF m 675 #[.val (.int p1), .val (.int p2), .val (.int p3), .val (.int p4), .val (.int p5), .val (.int 0), .val (.int (own_ch p2)), .val (.int (own_ch p3)), .val (.int (own_ch p4)), .val (.int (own_ch p5)), .val (.ref b1), .val (.ref b6), .val (.ref b11), .val (.ref b106), .unset, .unset] [(.ref b108)])) _
    refine XS.astore X116.here hx rfl (hb hby at_675) rfl rfl (l' := #[.val (.int p1), .val (.int p2), .val (.int p3), .val (.int p4), .val (.int p5), .val (.int 0), .val (.int (own_ch p2)), .val (.int (own_ch p3)), .val (.int (own_ch p4)), .val (.int (own_ch p5)), .val (.ref b1), .val (.ref b6), .val (.ref b11), .val (.ref b106), .val (.ref b108), .unset]) rfl ?_
    show Steps p.tables e below (T116.setTop (mkF m 677 #[.val (.int p1), .val (.int p2), .val (.int p3), .val (.int p4), .val (.int p5), .val (.int 0), .val (.int (own_ch p2)), .val (.int (own_ch p3)), .val (.int (own_ch p4)), .val (.int (own_ch p5)), .val (.ref b1), .val (.ref b6), .val (.ref b11), .val (.ref b106), .val (.ref b108), .unset] [])) _
    refine XS.aload X116.here hx rfl (hb hby at_677) rfl rfl ?_
    refine st117.trans ?_
    show Steps p.tables e below (T117.setTop (mkF m 682 #[.val (.int p1), .val (.int p2), .val (.int p3), .val (.int p4), .val (.int p5), .val (.int 0), .val (.int (own_ch p2)), .val (.int (own_ch p3)), .val (.int (own_ch p4)), .val (.int (own_ch p5)), .val (.ref b1), .val (.ref b6), .val (.ref b11), .val (.ref b106), .val (.ref b108), .unset] [(.ref b_117)])) _
    refine XS.astore X117.here hx rfl (hb hby at_682) rfl rfl (l' := #[.val (.int p1), .val (.int p2), .val (.int p3), .val (.int p4), .val (.int p5), .val (.int 0), .val (.int (own_ch p2)), .val (.int (own_ch p3)), .val (.int (own_ch p4)), .val (.int (own_ch p5)), .val (.ref b1), .val (.ref b6), .val (.ref b11), .val (.ref b106), .val (.ref b108), .val (.ref b_117)]) rfl ?_
    show Steps p.tables e below (T117.setTop (mkF m 684 #[.val (.int p1), .val (.int p2), .val (.int p3), .val (.int p4), .val (.int p5), .val (.int 0), .val (.int (own_ch p2)), .val (.int (own_ch p3)), .val (.int (own_ch p4)), .val (.int (own_ch p5)), .val (.ref b1), .val (.ref b6), .val (.ref b11), .val (.ref b106), .val (.ref b108), .val (.ref b_117)] [])) _
    refine XS.aload X117.here hx rfl (hb hby at_684) rfl rfl ?_
    refine XS.aload X117.here hx rfl (hb hby at_686) rfl rfl ?_
    refine st118.trans ?_
    show Steps p.tables e below (T118.setTop (mkF m 691 #[.val (.int p1), .val (.int p2), .val (.int p3), .val (.int p4), .val (.int p5), .val (.int 0), .val (.int (own_ch p2)), .val (.int (own_ch p3)), .val (.int (own_ch p4)), .val (.int (own_ch p5)), .val (.ref b1), .val (.ref b6), .val (.ref b11), .val (.ref b106), .val (.ref b108), .val (.ref b_117)] [(.int 1)])) _
    exact retN X118 hx (t := .boolean) Bd.returns (by simp) (hb hby at_691) hr
  · show Q_rm0 Z p1 p2 p3 p4 p5 zc cu h0 n0 _ T118.heap _
    rw [e118]
    exact ⟨rfl, N118, Q117⟩
set_option maxRecDepth 65536 in
set_option maxHeartbeats 40000000 in
theorem rm0_f (l : Launch) (Z : State) (a0 : Array Value) (hw : ∀ d ∈ tables_1, d.before a0 Z = true) (ws : List Jvm.Cond) (p1 : Int32) (p2 : Int32) (p3 : Int32) (p4 : Int32) (p5 : Int32) (zc : Int32) (cu : Addr) (h0 : Heap) (n0 : Nat) (Z0 : n0 ≤ h0.size) (S_COMPACT_STRINGS_ : Sta Z h0 "java/lang/String" "COMPACT_STRINGS" "Z" (.int zc)) (hzc : ¬ zc = 0) (S_UTF_8_ : Sta Z h0 "java/nio/charset/StandardCharsets" "UTF_8" "Ljava/nio/charset/Charset;" (.ref cu)) (S_INSTANCE_ : Sta Z h0 "sun/nio/cs/UTF_8" "INSTANCE" "Lsun/nio/cs/UTF_8;" (.ref cu)) (hn0 : n0 = h0.size) (hcst : ∀ p ∈ own_EL, Jvm.Lit.constHeld Z p.1 p.2) (hcw : Jvm.Lit.compactW.before a0 Z = true) (hc3 : ¬ ((p1 &&& (1 : Int32)) = (0 : Int32))) :
    MetFree l x (head1 (Jvm.Cond.code x code maxLocals ret :: ws) room_1) (fun a U => a = #[(.int p1), (.int p2), (.int p3), (.int p4), (.int p5)] ∧ Z = U ∧ U.heap = h0) (fun _ _ _ _ _ => True) (fun _ U o U' => ∃ v L, o = .returned v ∧ Q_rm0 Z p1 p2 p3 p4 p5 zc cu h0 n0 v U'.heap L ∧ ReturnedEndW U o U' L room_1.cells room_1.slots) := by
  refine MetFree.of_bodySF (plainFor_of_name pn_9) hisR ?_
  intro p e s m args below meth c s₁ Bd hml0 hP hK
  obtain ⟨rfl, hZ, hh⟩ := hP
  have hZU := hZ
  replace hZ : Z.Warmed39 s.vm := hZU ▸ State.Warmed39.refl _
  have hkeep : ∀ (b : Addr) (cl : Cell), Z.heap[b]? = some cl → s.heap[b]? = some cl := fun b cl q => hZU ▸ q
  have IB0 : IB Z s.vm [] := hZU ▸ IB.start
  have hNs : ∀ {L : List Loc}, Fr n0 L → Fr s.heap.size L := fun q => by rw [hh, ← hn0]; exact q
  have hx := Bd.exec
  have hby := Bd.bytes
  have hml : c.maxLocals = 16 := hml0
  have hown : s.vm.findClass "com/example/gentle_commit/gentlecommit/initiator/MessageDescribePinLaw" = some m.cls := findClass_of_methodNamed Bd.named
  have hnm := (name_of_methodNamed Bd.named Bd.method).1
  have X0 : Stand p l e room_1 s m #[(.int p1), (.int p2), (.int p3), (.int p4), (.int p5)] below meth c s₁ [] 0 0 := Stand.of_body Bd
  have e0 : s₁.heap = h0 := by rw [← hh, Bd.state]; rfl
  have N0 := Fr.nil n0
  have pre0 : ∀ t, Steps p.tables e below (s₁.setTop (mkF m 0 #[.val (.int p1), .val (.int p2), .val (.int p3), .val (.int p4), .val (.int p5), .unset, .unset, .unset, .unset, .unset, .unset, .unset, .unset, .unset, .unset, .unset] [])) t → Steps p.tables e below (s₁.setTop (entryFrame m #[(.int p1), (.int p2), (.int p3), (.int p4), (.int p5)] maxLocals)) t := fun t k => castTop (ef_15 m p1 p2 p3 p4 p5) k
  have X0w : Stand p l e room_1 (s.setVm s.vm) m #[(.int p1), (.int p2), (.int p3), (.int p4), (.int p5)] below meth c s₁ [] 0 0 := X0
  have hZ0 : Z.Warmed39 (s.setVm s.vm).vm := hZ
  have hown0 : (s.setVm s.vm).vm.findClass "com/example/gentle_commit/gentlecommit/initiator/MessageDescribePinLaw" = some m.cls := hown
  have hS0 : s.Since s.vm 0 := (State.WarmedH.refl s).since 0
  have hk0 : 0 ≤ h0.size := Nat.zero_le _
  have CH0 : CHr Z own_EL s.vm h0 s.vm h0 := CHr.refl (hh ▸ hZU ▸ CHv.start (own_EW Z a0 hw) hcst hcw (own_t hw 19 rfl) (own_t hw 2 rfl))
  obtain ⟨T1, h1, k1, X1, e1, E1, A1, st1⟩ := newP X0w hx hZ0 (own_t hw 0 rfl) e0 (g := (mkF m 47 #[.val (.int p1), .val (.int p2), .val (.int p3), .val (.int p4), .val (.int p5), .val (.int 1), .val (.int (own_ch p2)), .val (.int (own_ch p3)), .val (.int (own_ch p4)), .val (.int (own_ch p5)), .unset, .unset, .unset, .unset, .unset, .unset] [(.int 2)])) rfl (hb hby at_47) rfl (by decide) (cap := 2) (by decide) (by decide) (by decide) (by decide)
  obtain ⟨b1, gg1⟩ : ∃ z, z = h0.size := ⟨_, rfl⟩
  rw [← gg1] at A1 st1
  have CH1 := CHr.trans CH0 (CHr.ext E1 CH0.1)
  have g_b1 : n0 ≤ b1 := Nat.le_trans Z0 (Nat.le_of_eq gg1.symm)
  have sz_b1 : h0.size ≤ b1 := Nat.le_trans (Keep.refl h0 []).1 (Nat.le_of_eq gg1.symm)
  have Q1 : Keep h0 h1 [] := (Keep.refl h0 []).ext E1
  have V_b1 : Arv Z h1 b1 k1 .char (2 : Int32) [(.int 0), (.int 0)] (.int 0) := (Arv.new A1 (by decide)).pad (pad_rep [] (.int 0) 2)
  obtain ⟨cl2, Ar2, q2, S2, M2, H2, G2⟩ := id V_b1
  obtain ⟨T3, h3, X3, e3, W3, st3⟩ := stC X1 hx hZ0 e1 Ar2 (j := (0 : Int32)) (inb_of S2 ⟨by decide, by decide⟩) (g := (mkF m 53 #[.val (.int p1), .val (.int p2), .val (.int p3), .val (.int p4), .val (.int p5), .val (.int 1), .val (.int (own_ch p2)), .val (.int (own_ch p3)), .val (.int (own_ch p4)), .val (.int (own_ch p5)), .unset, .unset, .unset, .unset, .unset, .unset] [(.int (own_ch p2)), (.int 0), (.ref b1), (.ref b1)])) rfl rfl (hb hby at_53)
  have V3 : Arv Z h3 b1 k1 .char (2 : Int32) [(.int (nar .char (own_ch p2))), (.int 0)] (.int 0) := Arv.set Ar2 q2 S2 M2 H2 G2 (fits_nar_char _) W3 0 rfl (Nat.le_of_ble_eq_true rfl)
  have CH3 := CHr.trans CH1 (CHr.wr W3 (Safe.arv hZ0.alike V_b1 (by decide)) CH1.1)
  have Q3 : Keep h0 h3 [] := Q1.wr W3 (Or.inr sz_b1)
  have N3 := Fr.snoc X3 N0 g_b1
  obtain ⟨cl4, Ar4, q4, S4, M4, H4, G4⟩ := id V3
  obtain ⟨T5, h5, X5, e5, W5, st5⟩ := stC X3 hx hZ0 e3 Ar4 (j := (1 : Int32)) (inb_of S4 ⟨by decide, by decide⟩) (g := (mkF m 58 #[.val (.int p1), .val (.int p2), .val (.int p3), .val (.int p4), .val (.int p5), .val (.int 1), .val (.int (own_ch p2)), .val (.int (own_ch p3)), .val (.int (own_ch p4)), .val (.int (own_ch p5)), .unset, .unset, .unset, .unset, .unset, .unset] [(.int (own_ch p3)), (.int 1), (.ref b1), (.ref b1)])) rfl rfl (hb hby at_58)
  have V5 : Arv Z h5 b1 k1 .char (2 : Int32) [(.int (nar .char (own_ch p2))), (.int (nar .char (own_ch p3)))] (.int 0) := Arv.set Ar4 q4 S4 M4 H4 G4 (fits_nar_char _) W5 1 rfl (Nat.le_of_ble_eq_true rfl)
  have CH5 := CHr.trans CH3 (CHr.wr W5 (Safe.arv hZ0.alike V3 (by decide)) CH3.1)
  have Q5 : Keep h0 h5 [] := Q3.wr W5 (Or.inr sz_b1)
  have N5 := Fr.snoc X5 N3 g_b1
  obtain ⟨T6, h6, k6, X6, e6, E6, A6, st6⟩ := newP X5 hx hZ0 (own_t hw 0 rfl) e5 (g := (mkF m 62 #[.val (.int p1), .val (.int p2), .val (.int p3), .val (.int p4), .val (.int p5), .val (.int 1), .val (.int (own_ch p2)), .val (.int (own_ch p3)), .val (.int (own_ch p4)), .val (.int (own_ch p5)), .val (.ref b1), .unset, .unset, .unset, .unset, .unset] [(.int 2)])) rfl (hb hby at_62) rfl (by decide) (cap := 2) (by decide) (by decide) (by decide) (by decide)
  obtain ⟨b6, gg6⟩ : ∃ z, z = h5.size := ⟨_, rfl⟩
  rw [← gg6] at A6 st6
  have CH6 := CHr.trans CH5 (CHr.ext E6 CH5.1)
  have g_b6 : n0 ≤ b6 := Nat.le_trans (Nat.le_trans (Nat.le_trans (Nat.le_trans Z0 E1.1) (Keep.of_wr W3).1) (Keep.of_wr W5).1) (Nat.le_of_eq gg6.symm)
  have sz_b6 : h0.size ≤ b6 := Nat.le_trans Q5.1 (Nat.le_of_eq gg6.symm)
  have Q6 : Keep h0 h6 [] := Q5.ext E6
  have V_b6 : Arv Z h6 b6 k6 .char (2 : Int32) [(.int 0), (.int 0)] (.int 0) := (Arv.new A6 (by decide)).pad (pad_rep [] (.int 0) 2)
  obtain ⟨cl7, Ar7, q7, S7, M7, H7, G7⟩ := id V_b6
  obtain ⟨T8, h8, X8, e8, W8, st8⟩ := stC X6 hx hZ0 e6 Ar7 (j := (0 : Int32)) (inb_of S7 ⟨by decide, by decide⟩) (g := (mkF m 68 #[.val (.int p1), .val (.int p2), .val (.int p3), .val (.int p4), .val (.int p5), .val (.int 1), .val (.int (own_ch p2)), .val (.int (own_ch p3)), .val (.int (own_ch p4)), .val (.int (own_ch p5)), .val (.ref b1), .unset, .unset, .unset, .unset, .unset] [(.int (own_ch p4)), (.int 0), (.ref b6), (.ref b6)])) rfl rfl (hb hby at_68)
  have V8 : Arv Z h8 b6 k6 .char (2 : Int32) [(.int (nar .char (own_ch p4))), (.int 0)] (.int 0) := Arv.set Ar7 q7 S7 M7 H7 G7 (fits_nar_char _) W8 0 rfl (Nat.le_of_ble_eq_true rfl)
  have CH8 := CHr.trans CH6 (CHr.wr W8 (Safe.arv hZ0.alike V_b6 (by decide)) CH6.1)
  have Q8 : Keep h0 h8 [] := Q6.wr W8 (Or.inr sz_b6)
  have N8 := Fr.snoc X8 N5 g_b6
  obtain ⟨cl9, Ar9, q9, S9, M9, H9, G9⟩ := id V8
  obtain ⟨T10, h10, X10, e10, W10, st10⟩ := stC X8 hx hZ0 e8 Ar9 (j := (1 : Int32)) (inb_of S9 ⟨by decide, by decide⟩) (g := (mkF m 73 #[.val (.int p1), .val (.int p2), .val (.int p3), .val (.int p4), .val (.int p5), .val (.int 1), .val (.int (own_ch p2)), .val (.int (own_ch p3)), .val (.int (own_ch p4)), .val (.int (own_ch p5)), .val (.ref b1), .unset, .unset, .unset, .unset, .unset] [(.int (own_ch p5)), (.int 1), (.ref b6), (.ref b6)])) rfl rfl (hb hby at_73)
  have V10 : Arv Z h10 b6 k6 .char (2 : Int32) [(.int (nar .char (own_ch p4))), (.int (nar .char (own_ch p5)))] (.int 0) := Arv.set Ar9 q9 S9 M9 H9 G9 (fits_nar_char _) W10 1 rfl (Nat.le_of_ble_eq_true rfl)
  have CH10 := CHr.trans CH8 (CHr.wr W10 (Safe.arv hZ0.alike V8 (by decide)) CH8.1)
  have Q10 : Keep h0 h10 [] := Q8.wr W10 (Or.inr sz_b6)
  have N10 := Fr.snoc X10 N8 g_b6
  obtain ⟨T11, h11, k11, X11, e11, E11, A11, st11⟩ := newP X10 hx hZ0 (own_t hw 0 rfl) e10 (g := (mkF m 83 (own_F1 p1 p2 p3 p4 p5 b1 b6) [(.int 44)])) rfl (hb hby at_83) rfl (by decide) (cap := 44) (by decide) (by decide) (by decide) (by decide)
  obtain ⟨b11, gg11⟩ : ∃ z, z = h10.size := ⟨_, rfl⟩
  rw [← gg11] at A11 st11
  have CH11 := CHr.trans CH10 (CHr.ext E11 CH10.1)
  have g_b11 : n0 ≤ b11 := Nat.le_trans (Nat.le_trans (Nat.le_trans (Nat.le_trans (Nat.le_trans (Nat.le_trans (Nat.le_trans Z0 E1.1) (Keep.of_wr W3).1) (Keep.of_wr W5).1) E6.1) (Keep.of_wr W8).1) (Keep.of_wr W10).1) (Nat.le_of_eq gg11.symm)
  have sz_b11 : h0.size ≤ b11 := Nat.le_trans Q10.1 (Nat.le_of_eq gg11.symm)
  have Q11 : Keep h0 h11 [] := Q10.ext E11
  have V_b11 : Arv Z h11 b11 k11 .char (44 : Int32) [oz, oz, oz, oz, oz, oz, oz, oz, oz, oz, oz, oz, oz, oz, oz, oz, oz, oz, oz, oz, oz, oz, oz, oz, oz, oz, oz, oz, oz, oz, oz, oz, oz, oz, oz, oz, oz, oz, oz, oz, oz, oz, oz, oz] (.int 0) := (Arv.new A11 (by decide)).pad (pad_rep [] (.int 0) 44)
  obtain ⟨cl12, Ar12, q12, S12, M12, H12, G12⟩ := id V_b11
  obtain ⟨T13, h13, X13, e13, W13, st13⟩ := stC X11 hx hZ0 e11 Ar12 (j := (0 : Int32)) (inb_of S12 ⟨by decide, by decide⟩) (g := (mkF m 89 (own_F1 p1 p2 p3 p4 p5 b1 b6) [(.int 114), (.int 0), (.ref b11), (.ref b11)])) rfl rfl (hb hby at_89)
  have V13 : Arv Z h13 b11 k11 .char (44 : Int32) [(ow 114), oz, oz, oz, oz, oz, oz, oz, oz, oz, oz, oz, oz, oz, oz, oz, oz, oz, oz, oz, oz, oz, oz, oz, oz, oz, oz, oz, oz, oz, oz, oz, oz, oz, oz, oz, oz, oz, oz, oz, oz, oz, oz, oz] (.int 0) := Arv.set Ar12 q12 S12 M12 H12 G12 (fits_nar_char _) W13 0 rfl (Nat.le_of_ble_eq_true rfl)
  have CH13 := CHr.trans CH11 (CHr.wr W13 (Safe.arv hZ0.alike V_b11 (by decide)) CH11.1)
  have Q13 : Keep h0 h13 [] := Q11.wr W13 (Or.inr sz_b11)
  have N13 := Fr.snoc X13 N10 g_b11
  obtain ⟨cl14, Ar14, q14, S14, M14, H14, G14⟩ := id V13
  obtain ⟨T15, h15, X15, e15, W15, st15⟩ := stC X13 hx hZ0 e13 Ar14 (j := (1 : Int32)) (inb_of S14 ⟨by decide, by decide⟩) (g := (mkF m 94 (own_F1 p1 p2 p3 p4 p5 b1 b6) [(.int 101), (.int 1), (.ref b11), (.ref b11)])) rfl rfl (hb hby at_94)
  have V15 : Arv Z h15 b11 k11 .char (44 : Int32) [(ow 114), (ow 101), oz, oz, oz, oz, oz, oz, oz, oz, oz, oz, oz, oz, oz, oz, oz, oz, oz, oz, oz, oz, oz, oz, oz, oz, oz, oz, oz, oz, oz, oz, oz, oz, oz, oz, oz, oz, oz, oz, oz, oz, oz, oz] (.int 0) := Arv.set Ar14 q14 S14 M14 H14 G14 (fits_nar_char _) W15 1 rfl (Nat.le_of_ble_eq_true rfl)
  have CH15 := CHr.trans CH13 (CHr.wr W15 (Safe.arv hZ0.alike V13 (by decide)) CH13.1)
  have Q15 : Keep h0 h15 [] := Q13.wr W15 (Or.inr sz_b11)
  have N15 := Fr.snoc X15 N13 g_b11
  obtain ⟨cl16, Ar16, q16, S16, M16, H16, G16⟩ := id V15
  obtain ⟨T17, h17, X17, e17, W17, st17⟩ := stC X15 hx hZ0 e15 Ar16 (j := (2 : Int32)) (inb_of S16 ⟨by decide, by decide⟩) (g := (mkF m 99 (own_F1 p1 p2 p3 p4 p5 b1 b6) [(.int 108), (.int 2), (.ref b11), (.ref b11)])) rfl rfl (hb hby at_99)
  have V17 : Arv Z h17 b11 k11 .char (44 : Int32) [(ow 114), (ow 101), (ow 108), oz, oz, oz, oz, oz, oz, oz, oz, oz, oz, oz, oz, oz, oz, oz, oz, oz, oz, oz, oz, oz, oz, oz, oz, oz, oz, oz, oz, oz, oz, oz, oz, oz, oz, oz, oz, oz, oz, oz, oz, oz] (.int 0) := Arv.set Ar16 q16 S16 M16 H16 G16 (fits_nar_char _) W17 2 rfl (Nat.le_of_ble_eq_true rfl)
  have CH17 := CHr.trans CH15 (CHr.wr W17 (Safe.arv hZ0.alike V15 (by decide)) CH15.1)
  have Q17 : Keep h0 h17 [] := Q15.wr W17 (Or.inr sz_b11)
  have N17 := Fr.snoc X17 N15 g_b11
  obtain ⟨cl18, Ar18, q18, S18, M18, H18, G18⟩ := id V17
  obtain ⟨T19, h19, X19, e19, W19, st19⟩ := stC X17 hx hZ0 e17 Ar18 (j := (3 : Int32)) (inb_of S18 ⟨by decide, by decide⟩) (g := (mkF m 104 (own_F1 p1 p2 p3 p4 p5 b1 b6) [(.int 105), (.int 3), (.ref b11), (.ref b11)])) rfl rfl (hb hby at_104)
  have V19 : Arv Z h19 b11 k11 .char (44 : Int32) [(ow 114), (ow 101), (ow 108), (ow 105), oz, oz, oz, oz, oz, oz, oz, oz, oz, oz, oz, oz, oz, oz, oz, oz, oz, oz, oz, oz, oz, oz, oz, oz, oz, oz, oz, oz, oz, oz, oz, oz, oz, oz, oz, oz, oz, oz, oz, oz] (.int 0) := Arv.set Ar18 q18 S18 M18 H18 G18 (fits_nar_char _) W19 3 rfl (Nat.le_of_ble_eq_true rfl)
  have CH19 := CHr.trans CH17 (CHr.wr W19 (Safe.arv hZ0.alike V17 (by decide)) CH17.1)
  have Q19 : Keep h0 h19 [] := Q17.wr W19 (Or.inr sz_b11)
  have N19 := Fr.snoc X19 N17 g_b11
  obtain ⟨cl20, Ar20, q20, S20, M20, H20, G20⟩ := id V19
  obtain ⟨T21, h21, X21, e21, W21, st21⟩ := stC X19 hx hZ0 e19 Ar20 (j := (4 : Int32)) (inb_of S20 ⟨by decide, by decide⟩) (g := (mkF m 109 (own_F1 p1 p2 p3 p4 p5 b1 b6) [(.int 97), (.int 4), (.ref b11), (.ref b11)])) rfl rfl (hb hby at_109)
  have V21 : Arv Z h21 b11 k11 .char (44 : Int32) [(ow 114), (ow 101), (ow 108), (ow 105), (ow 97), oz, oz, oz, oz, oz, oz, oz, oz, oz, oz, oz, oz, oz, oz, oz, oz, oz, oz, oz, oz, oz, oz, oz, oz, oz, oz, oz, oz, oz, oz, oz, oz, oz, oz, oz, oz, oz, oz, oz] (.int 0) := Arv.set Ar20 q20 S20 M20 H20 G20 (fits_nar_char _) W21 4 rfl (Nat.le_of_ble_eq_true rfl)
  have CH21 := CHr.trans CH19 (CHr.wr W21 (Safe.arv hZ0.alike V19 (by decide)) CH19.1)
  have Q21 : Keep h0 h21 [] := Q19.wr W21 (Or.inr sz_b11)
  have N21 := Fr.snoc X21 N19 g_b11
  obtain ⟨cl22, Ar22, q22, S22, M22, H22, G22⟩ := id V21
  obtain ⟨T23, h23, X23, e23, W23, st23⟩ := stC X21 hx hZ0 e21 Ar22 (j := (5 : Int32)) (inb_of S22 ⟨by decide, by decide⟩) (g := (mkF m 114 (own_F1 p1 p2 p3 p4 p5 b1 b6) [(.int 98), (.int 5), (.ref b11), (.ref b11)])) rfl rfl (hb hby at_114)
  have V23 : Arv Z h23 b11 k11 .char (44 : Int32) [(ow 114), (ow 101), (ow 108), (ow 105), (ow 97), (ow 98), oz, oz, oz, oz, oz, oz, oz, oz, oz, oz, oz, oz, oz, oz, oz, oz, oz, oz, oz, oz, oz, oz, oz, oz, oz, oz, oz, oz, oz, oz, oz, oz, oz, oz, oz, oz, oz, oz] (.int 0) := Arv.set Ar22 q22 S22 M22 H22 G22 (fits_nar_char _) W23 5 rfl (Nat.le_of_ble_eq_true rfl)
  have CH23 := CHr.trans CH21 (CHr.wr W23 (Safe.arv hZ0.alike V21 (by decide)) CH21.1)
  have Q23 : Keep h0 h23 [] := Q21.wr W23 (Or.inr sz_b11)
  have N23 := Fr.snoc X23 N21 g_b11
  obtain ⟨cl24, Ar24, q24, S24, M24, H24, G24⟩ := id V23
  obtain ⟨T25, h25, X25, e25, W25, st25⟩ := stC X23 hx hZ0 e23 Ar24 (j := (6 : Int32)) (inb_of S24 ⟨by decide, by decide⟩) (g := (mkF m 120 (own_F1 p1 p2 p3 p4 p5 b1 b6) [(.int 108), (.int 6), (.ref b11), (.ref b11)])) rfl rfl (hb hby at_120)
  have V25 : Arv Z h25 b11 k11 .char (44 : Int32) [(ow 114), (ow 101), (ow 108), (ow 105), (ow 97), (ow 98), (ow 108), oz, oz, oz, oz, oz, oz, oz, oz, oz, oz, oz, oz, oz, oz, oz, oz, oz, oz, oz, oz, oz, oz, oz, oz, oz, oz, oz, oz, oz, oz, oz, oz, oz, oz, oz, oz, oz] (.int 0) := Arv.set Ar24 q24 S24 M24 H24 G24 (fits_nar_char _) W25 6 rfl (Nat.le_of_ble_eq_true rfl)
  have CH25 := CHr.trans CH23 (CHr.wr W25 (Safe.arv hZ0.alike V23 (by decide)) CH23.1)
  have Q25 : Keep h0 h25 [] := Q23.wr W25 (Or.inr sz_b11)
  have N25 := Fr.snoc X25 N23 g_b11
  obtain ⟨cl26, Ar26, q26, S26, M26, H26, G26⟩ := id V25
  obtain ⟨T27, h27, X27, e27, W27, st27⟩ := stC X25 hx hZ0 e25 Ar26 (j := (7 : Int32)) (inb_of S26 ⟨by decide, by decide⟩) (g := (mkF m 126 (own_F1 p1 p2 p3 p4 p5 b1 b6) [(.int 101), (.int 7), (.ref b11), (.ref b11)])) rfl rfl (hb hby at_126)
  have V27 : Arv Z h27 b11 k11 .char (44 : Int32) [(ow 114), (ow 101), (ow 108), (ow 105), (ow 97), (ow 98), (ow 108), (ow 101), oz, oz, oz, oz, oz, oz, oz, oz, oz, oz, oz, oz, oz, oz, oz, oz, oz, oz, oz, oz, oz, oz, oz, oz, oz, oz, oz, oz, oz, oz, oz, oz, oz, oz, oz, oz] (.int 0) := Arv.set Ar26 q26 S26 M26 H26 G26 (fits_nar_char _) W27 7 rfl (Nat.le_of_ble_eq_true rfl)
  have CH27 := CHr.trans CH25 (CHr.wr W27 (Safe.arv hZ0.alike V25 (by decide)) CH25.1)
  have Q27 : Keep h0 h27 [] := Q25.wr W27 (Or.inr sz_b11)
  have N27 := Fr.snoc X27 N25 g_b11
  obtain ⟨cl28, Ar28, q28, S28, M28, H28, G28⟩ := id V27
  obtain ⟨T29, h29, X29, e29, W29, st29⟩ := stC X27 hx hZ0 e27 Ar28 (j := (8 : Int32)) (inb_of S28 ⟨by decide, by decide⟩) (g := (mkF m 132 (own_F1 p1 p2 p3 p4 p5 b1 b6) [(.int 32), (.int 8), (.ref b11), (.ref b11)])) rfl rfl (hb hby at_132)
  have V29 : Arv Z h29 b11 k11 .char (44 : Int32) [(ow 114), (ow 101), (ow 108), (ow 105), (ow 97), (ow 98), (ow 108), (ow 101), (ow 32), oz, oz, oz, oz, oz, oz, oz, oz, oz, oz, oz, oz, oz, oz, oz, oz, oz, oz, oz, oz, oz, oz, oz, oz, oz, oz, oz, oz, oz, oz, oz, oz, oz, oz, oz] (.int 0) := Arv.set Ar28 q28 S28 M28 H28 G28 (fits_nar_char _) W29 8 rfl (Nat.le_of_ble_eq_true rfl)
  have CH29 := CHr.trans CH27 (CHr.wr W29 (Safe.arv hZ0.alike V27 (by decide)) CH27.1)
  have Q29 : Keep h0 h29 [] := Q27.wr W29 (Or.inr sz_b11)
  have N29 := Fr.snoc X29 N27 g_b11
  obtain ⟨cl30, Ar30, q30, S30, M30, H30, G30⟩ := id V29
  obtain ⟨T31, h31, X31, e31, W31, st31⟩ := stC X29 hx hZ0 e29 Ar30 (j := (9 : Int32)) (inb_of S30 ⟨by decide, by decide⟩) (g := (mkF m 138 (own_F1 p1 p2 p3 p4 p5 b1 b6) [(.int 109), (.int 9), (.ref b11), (.ref b11)])) rfl rfl (hb hby at_138)
  have V31 : Arv Z h31 b11 k11 .char (44 : Int32) [(ow 114), (ow 101), (ow 108), (ow 105), (ow 97), (ow 98), (ow 108), (ow 101), (ow 32), (ow 109), oz, oz, oz, oz, oz, oz, oz, oz, oz, oz, oz, oz, oz, oz, oz, oz, oz, oz, oz, oz, oz, oz, oz, oz, oz, oz, oz, oz, oz, oz, oz, oz, oz, oz] (.int 0) := Arv.set Ar30 q30 S30 M30 H30 G30 (fits_nar_char _) W31 9 rfl (Nat.le_of_ble_eq_true rfl)
  have CH31 := CHr.trans CH29 (CHr.wr W31 (Safe.arv hZ0.alike V29 (by decide)) CH29.1)
  have Q31 : Keep h0 h31 [] := Q29.wr W31 (Or.inr sz_b11)
  have N31 := Fr.snoc X31 N29 g_b11
  obtain ⟨cl32, Ar32, q32, S32, M32, H32, G32⟩ := id V31
  obtain ⟨T33, h33, X33, e33, W33, st33⟩ := stC X31 hx hZ0 e31 Ar32 (j := (10 : Int32)) (inb_of S32 ⟨by decide, by decide⟩) (g := (mkF m 144 (own_F1 p1 p2 p3 p4 p5 b1 b6) [(.int 101), (.int 10), (.ref b11), (.ref b11)])) rfl rfl (hb hby at_144)
  have V33 : Arv Z h33 b11 k11 .char (44 : Int32) [(ow 114), (ow 101), (ow 108), (ow 105), (ow 97), (ow 98), (ow 108), (ow 101), (ow 32), (ow 109), (ow 101), oz, oz, oz, oz, oz, oz, oz, oz, oz, oz, oz, oz, oz, oz, oz, oz, oz, oz, oz, oz, oz, oz, oz, oz, oz, oz, oz, oz, oz, oz, oz, oz, oz] (.int 0) := Arv.set Ar32 q32 S32 M32 H32 G32 (fits_nar_char _) W33 10 rfl (Nat.le_of_ble_eq_true rfl)
  have CH33 := CHr.trans CH31 (CHr.wr W33 (Safe.arv hZ0.alike V31 (by decide)) CH31.1)
  have Q33 : Keep h0 h33 [] := Q31.wr W33 (Or.inr sz_b11)
  have N33 := Fr.snoc X33 N31 g_b11
  obtain ⟨cl34, Ar34, q34, S34, M34, H34, G34⟩ := id V33
  obtain ⟨T35, h35, X35, e35, W35, st35⟩ := stC X33 hx hZ0 e33 Ar34 (j := (11 : Int32)) (inb_of S34 ⟨by decide, by decide⟩) (g := (mkF m 150 (own_F1 p1 p2 p3 p4 p5 b1 b6) [(.int 115), (.int 11), (.ref b11), (.ref b11)])) rfl rfl (hb hby at_150)
  have V35 : Arv Z h35 b11 k11 .char (44 : Int32) [(ow 114), (ow 101), (ow 108), (ow 105), (ow 97), (ow 98), (ow 108), (ow 101), (ow 32), (ow 109), (ow 101), (ow 115), oz, oz, oz, oz, oz, oz, oz, oz, oz, oz, oz, oz, oz, oz, oz, oz, oz, oz, oz, oz, oz, oz, oz, oz, oz, oz, oz, oz, oz, oz, oz, oz] (.int 0) := Arv.set Ar34 q34 S34 M34 H34 G34 (fits_nar_char _) W35 11 rfl (Nat.le_of_ble_eq_true rfl)
  have CH35 := CHr.trans CH33 (CHr.wr W35 (Safe.arv hZ0.alike V33 (by decide)) CH33.1)
  have Q35 : Keep h0 h35 [] := Q33.wr W35 (Or.inr sz_b11)
  have N35 := Fr.snoc X35 N33 g_b11
  obtain ⟨cl36, Ar36, q36, S36, M36, H36, G36⟩ := id V35
  obtain ⟨T37, h37, X37, e37, W37, st37⟩ := stC X35 hx hZ0 e35 Ar36 (j := (12 : Int32)) (inb_of S36 ⟨by decide, by decide⟩) (g := (mkF m 156 (own_F1 p1 p2 p3 p4 p5 b1 b6) [(.int 115), (.int 12), (.ref b11), (.ref b11)])) rfl rfl (hb hby at_156)
  have V37 : Arv Z h37 b11 k11 .char (44 : Int32) [(ow 114), (ow 101), (ow 108), (ow 105), (ow 97), (ow 98), (ow 108), (ow 101), (ow 32), (ow 109), (ow 101), (ow 115), (ow 115), oz, oz, oz, oz, oz, oz, oz, oz, oz, oz, oz, oz, oz, oz, oz, oz, oz, oz, oz, oz, oz, oz, oz, oz, oz, oz, oz, oz, oz, oz, oz] (.int 0) := Arv.set Ar36 q36 S36 M36 H36 G36 (fits_nar_char _) W37 12 rfl (Nat.le_of_ble_eq_true rfl)
  have CH37 := CHr.trans CH35 (CHr.wr W37 (Safe.arv hZ0.alike V35 (by decide)) CH35.1)
  have Q37 : Keep h0 h37 [] := Q35.wr W37 (Or.inr sz_b11)
  have N37 := Fr.snoc X37 N35 g_b11
  obtain ⟨cl38, Ar38, q38, S38, M38, H38, G38⟩ := id V37
  obtain ⟨T39, h39, X39, e39, W39, st39⟩ := stC X37 hx hZ0 e37 Ar38 (j := (13 : Int32)) (inb_of S38 ⟨by decide, by decide⟩) (g := (mkF m 162 (own_F1 p1 p2 p3 p4 p5 b1 b6) [(.int 97), (.int 13), (.ref b11), (.ref b11)])) rfl rfl (hb hby at_162)
  have V39 : Arv Z h39 b11 k11 .char (44 : Int32) [(ow 114), (ow 101), (ow 108), (ow 105), (ow 97), (ow 98), (ow 108), (ow 101), (ow 32), (ow 109), (ow 101), (ow 115), (ow 115), (ow 97), oz, oz, oz, oz, oz, oz, oz, oz, oz, oz, oz, oz, oz, oz, oz, oz, oz, oz, oz, oz, oz, oz, oz, oz, oz, oz, oz, oz, oz, oz] (.int 0) := Arv.set Ar38 q38 S38 M38 H38 G38 (fits_nar_char _) W39 13 rfl (Nat.le_of_ble_eq_true rfl)
  have CH39 := CHr.trans CH37 (CHr.wr W39 (Safe.arv hZ0.alike V37 (by decide)) CH37.1)
  have Q39 : Keep h0 h39 [] := Q37.wr W39 (Or.inr sz_b11)
  have N39 := Fr.snoc X39 N37 g_b11
  obtain ⟨cl40, Ar40, q40, S40, M40, H40, G40⟩ := id V39
  obtain ⟨T41, h41, X41, e41, W41, st41⟩ := stC X39 hx hZ0 e39 Ar40 (j := (14 : Int32)) (inb_of S40 ⟨by decide, by decide⟩) (g := (mkF m 168 (own_F1 p1 p2 p3 p4 p5 b1 b6) [(.int 103), (.int 14), (.ref b11), (.ref b11)])) rfl rfl (hb hby at_168)
  have V41 : Arv Z h41 b11 k11 .char (44 : Int32) [(ow 114), (ow 101), (ow 108), (ow 105), (ow 97), (ow 98), (ow 108), (ow 101), (ow 32), (ow 109), (ow 101), (ow 115), (ow 115), (ow 97), (ow 103), oz, oz, oz, oz, oz, oz, oz, oz, oz, oz, oz, oz, oz, oz, oz, oz, oz, oz, oz, oz, oz, oz, oz, oz, oz, oz, oz, oz, oz] (.int 0) := Arv.set Ar40 q40 S40 M40 H40 G40 (fits_nar_char _) W41 14 rfl (Nat.le_of_ble_eq_true rfl)
  have CH41 := CHr.trans CH39 (CHr.wr W41 (Safe.arv hZ0.alike V39 (by decide)) CH39.1)
  have Q41 : Keep h0 h41 [] := Q39.wr W41 (Or.inr sz_b11)
  have N41 := Fr.snoc X41 N39 g_b11
  obtain ⟨cl42, Ar42, q42, S42, M42, H42, G42⟩ := id V41
  obtain ⟨T43, h43, X43, e43, W43, st43⟩ := stC X41 hx hZ0 e41 Ar42 (j := (15 : Int32)) (inb_of S42 ⟨by decide, by decide⟩) (g := (mkF m 174 (own_F1 p1 p2 p3 p4 p5 b1 b6) [(.int 101), (.int 15), (.ref b11), (.ref b11)])) rfl rfl (hb hby at_174)
  have V43 : Arv Z h43 b11 k11 .char (44 : Int32) [(ow 114), (ow 101), (ow 108), (ow 105), (ow 97), (ow 98), (ow 108), (ow 101), (ow 32), (ow 109), (ow 101), (ow 115), (ow 115), (ow 97), (ow 103), (ow 101), oz, oz, oz, oz, oz, oz, oz, oz, oz, oz, oz, oz, oz, oz, oz, oz, oz, oz, oz, oz, oz, oz, oz, oz, oz, oz, oz, oz] (.int 0) := Arv.set Ar42 q42 S42 M42 H42 G42 (fits_nar_char _) W43 15 rfl (Nat.le_of_ble_eq_true rfl)
  have CH43 := CHr.trans CH41 (CHr.wr W43 (Safe.arv hZ0.alike V41 (by decide)) CH41.1)
  have Q43 : Keep h0 h43 [] := Q41.wr W43 (Or.inr sz_b11)
  have N43 := Fr.snoc X43 N41 g_b11
  obtain ⟨cl44, Ar44, q44, S44, M44, H44, G44⟩ := id V43
  obtain ⟨T45, h45, X45, e45, W45, st45⟩ := stC X43 hx hZ0 e43 Ar44 (j := (16 : Int32)) (inb_of S44 ⟨by decide, by decide⟩) (g := (mkF m 180 (own_F1 p1 p2 p3 p4 p5 b1 b6) [(.int 32), (.int 16), (.ref b11), (.ref b11)])) rfl rfl (hb hby at_180)
  have V45 : Arv Z h45 b11 k11 .char (44 : Int32) [(ow 114), (ow 101), (ow 108), (ow 105), (ow 97), (ow 98), (ow 108), (ow 101), (ow 32), (ow 109), (ow 101), (ow 115), (ow 115), (ow 97), (ow 103), (ow 101), (ow 32), oz, oz, oz, oz, oz, oz, oz, oz, oz, oz, oz, oz, oz, oz, oz, oz, oz, oz, oz, oz, oz, oz, oz, oz, oz, oz, oz] (.int 0) := Arv.set Ar44 q44 S44 M44 H44 G44 (fits_nar_char _) W45 16 rfl (Nat.le_of_ble_eq_true rfl)
  have CH45 := CHr.trans CH43 (CHr.wr W45 (Safe.arv hZ0.alike V43 (by decide)) CH43.1)
  have Q45 : Keep h0 h45 [] := Q43.wr W45 (Or.inr sz_b11)
  have N45 := Fr.snoc X45 N43 g_b11
  obtain ⟨cl46, Ar46, q46, S46, M46, H46, G46⟩ := id V45
  obtain ⟨T47, h47, X47, e47, W47, st47⟩ := stC X45 hx hZ0 e45 Ar46 (j := (17 : Int32)) (inb_of S46 ⟨by decide, by decide⟩) (g := (mkF m 186 (own_F1 p1 p2 p3 p4 p5 b1 b6) [(.int (own_ch p2)), (.int 17), (.ref b11), (.ref b11)])) rfl rfl (hb hby at_186)
  have V47 : Arv Z h47 b11 k11 .char (44 : Int32) [(ow 114), (ow 101), (ow 108), (ow 105), (ow 97), (ow 98), (ow 108), (ow 101), (ow 32), (ow 109), (ow 101), (ow 115), (ow 115), (ow 97), (ow 103), (ow 101), (ow 32), (.int (nar .char (own_ch p2))), oz, oz, oz, oz, oz, oz, oz, oz, oz, oz, oz, oz, oz, oz, oz, oz, oz, oz, oz, oz, oz, oz, oz, oz, oz, oz] (.int 0) := Arv.set Ar46 q46 S46 M46 H46 G46 (fits_nar_char _) W47 17 rfl (Nat.le_of_ble_eq_true rfl)
  have CH47 := CHr.trans CH45 (CHr.wr W47 (Safe.arv hZ0.alike V45 (by decide)) CH45.1)
  have Q47 : Keep h0 h47 [] := Q45.wr W47 (Or.inr sz_b11)
  have N47 := Fr.snoc X47 N45 g_b11
  obtain ⟨cl48, Ar48, q48, S48, M48, H48, G48⟩ := id V47
  obtain ⟨T49, h49, X49, e49, W49, st49⟩ := stC X47 hx hZ0 e47 Ar48 (j := (18 : Int32)) (inb_of S48 ⟨by decide, by decide⟩) (g := (mkF m 192 (own_F1 p1 p2 p3 p4 p5 b1 b6) [(.int (own_ch p3)), (.int 18), (.ref b11), (.ref b11)])) rfl rfl (hb hby at_192)
  have V49 : Arv Z h49 b11 k11 .char (44 : Int32) [(ow 114), (ow 101), (ow 108), (ow 105), (ow 97), (ow 98), (ow 108), (ow 101), (ow 32), (ow 109), (ow 101), (ow 115), (ow 115), (ow 97), (ow 103), (ow 101), (ow 32), (.int (nar .char (own_ch p2))), (.int (nar .char (own_ch p3))), oz, oz, oz, oz, oz, oz, oz, oz, oz, oz, oz, oz, oz, oz, oz, oz, oz, oz, oz, oz, oz, oz, oz, oz, oz] (.int 0) := Arv.set Ar48 q48 S48 M48 H48 G48 (fits_nar_char _) W49 18 rfl (Nat.le_of_ble_eq_true rfl)
  have CH49 := CHr.trans CH47 (CHr.wr W49 (Safe.arv hZ0.alike V47 (by decide)) CH47.1)
  have Q49 : Keep h0 h49 [] := Q47.wr W49 (Or.inr sz_b11)
  have N49 := Fr.snoc X49 N47 g_b11
  obtain ⟨cl50, Ar50, q50, S50, M50, H50, G50⟩ := id V49
  obtain ⟨T51, h51, X51, e51, W51, st51⟩ := stC X49 hx hZ0 e49 Ar50 (j := (19 : Int32)) (inb_of S50 ⟨by decide, by decide⟩) (g := (mkF m 198 (own_F1 p1 p2 p3 p4 p5 b1 b6) [(.int 32), (.int 19), (.ref b11), (.ref b11)])) rfl rfl (hb hby at_198)
  have V51 : Arv Z h51 b11 k11 .char (44 : Int32) [(ow 114), (ow 101), (ow 108), (ow 105), (ow 97), (ow 98), (ow 108), (ow 101), (ow 32), (ow 109), (ow 101), (ow 115), (ow 115), (ow 97), (ow 103), (ow 101), (ow 32), (.int (nar .char (own_ch p2))), (.int (nar .char (own_ch p3))), (ow 32), oz, oz, oz, oz, oz, oz, oz, oz, oz, oz, oz, oz, oz, oz, oz, oz, oz, oz, oz, oz, oz, oz, oz, oz] (.int 0) := Arv.set Ar50 q50 S50 M50 H50 G50 (fits_nar_char _) W51 19 rfl (Nat.le_of_ble_eq_true rfl)
  have CH51 := CHr.trans CH49 (CHr.wr W51 (Safe.arv hZ0.alike V49 (by decide)) CH49.1)
  have Q51 : Keep h0 h51 [] := Q49.wr W51 (Or.inr sz_b11)
  have N51 := Fr.snoc X51 N49 g_b11
  obtain ⟨cl52, Ar52, q52, S52, M52, H52, G52⟩ := id V51
  obtain ⟨T53, h53, X53, e53, W53, st53⟩ := stC X51 hx hZ0 e51 Ar52 (j := (20 : Int32)) (inb_of S52 ⟨by decide, by decide⟩) (g := (mkF m 204 (own_F1 p1 p2 p3 p4 p5 b1 b6) [(.int 111), (.int 20), (.ref b11), (.ref b11)])) rfl rfl (hb hby at_204)
  have V53 : Arv Z h53 b11 k11 .char (44 : Int32) [(ow 114), (ow 101), (ow 108), (ow 105), (ow 97), (ow 98), (ow 108), (ow 101), (ow 32), (ow 109), (ow 101), (ow 115), (ow 115), (ow 97), (ow 103), (ow 101), (ow 32), (.int (nar .char (own_ch p2))), (.int (nar .char (own_ch p3))), (ow 32), (ow 111), oz, oz, oz, oz, oz, oz, oz, oz, oz, oz, oz, oz, oz, oz, oz, oz, oz, oz, oz, oz, oz, oz, oz] (.int 0) := Arv.set Ar52 q52 S52 M52 H52 G52 (fits_nar_char _) W53 20 rfl (Nat.le_of_ble_eq_true rfl)
  have CH53 := CHr.trans CH51 (CHr.wr W53 (Safe.arv hZ0.alike V51 (by decide)) CH51.1)
  have Q53 : Keep h0 h53 [] := Q51.wr W53 (Or.inr sz_b11)
  have N53 := Fr.snoc X53 N51 g_b11
  obtain ⟨cl54, Ar54, q54, S54, M54, H54, G54⟩ := id V53
  obtain ⟨T55, h55, X55, e55, W55, st55⟩ := stC X53 hx hZ0 e53 Ar54 (j := (21 : Int32)) (inb_of S54 ⟨by decide, by decide⟩) (g := (mkF m 210 (own_F1 p1 p2 p3 p4 p5 b1 b6) [(.int 102), (.int 21), (.ref b11), (.ref b11)])) rfl rfl (hb hby at_210)
  have V55 : Arv Z h55 b11 k11 .char (44 : Int32) [(ow 114), (ow 101), (ow 108), (ow 105), (ow 97), (ow 98), (ow 108), (ow 101), (ow 32), (ow 109), (ow 101), (ow 115), (ow 115), (ow 97), (ow 103), (ow 101), (ow 32), (.int (nar .char (own_ch p2))), (.int (nar .char (own_ch p3))), (ow 32), (ow 111), (ow 102), oz, oz, oz, oz, oz, oz, oz, oz, oz, oz, oz, oz, oz, oz, oz, oz, oz, oz, oz, oz, oz, oz] (.int 0) := Arv.set Ar54 q54 S54 M54 H54 G54 (fits_nar_char _) W55 21 rfl (Nat.le_of_ble_eq_true rfl)
  have CH55 := CHr.trans CH53 (CHr.wr W55 (Safe.arv hZ0.alike V53 (by decide)) CH53.1)
  have Q55 : Keep h0 h55 [] := Q53.wr W55 (Or.inr sz_b11)
  have N55 := Fr.snoc X55 N53 g_b11
  obtain ⟨cl56, Ar56, q56, S56, M56, H56, G56⟩ := id V55
  obtain ⟨T57, h57, X57, e57, W57, st57⟩ := stC X55 hx hZ0 e55 Ar56 (j := (22 : Int32)) (inb_of S56 ⟨by decide, by decide⟩) (g := (mkF m 216 (own_F1 p1 p2 p3 p4 p5 b1 b6) [(.int 32), (.int 22), (.ref b11), (.ref b11)])) rfl rfl (hb hby at_216)
  have V57 : Arv Z h57 b11 k11 .char (44 : Int32) [(ow 114), (ow 101), (ow 108), (ow 105), (ow 97), (ow 98), (ow 108), (ow 101), (ow 32), (ow 109), (ow 101), (ow 115), (ow 115), (ow 97), (ow 103), (ow 101), (ow 32), (.int (nar .char (own_ch p2))), (.int (nar .char (own_ch p3))), (ow 32), (ow 111), (ow 102), (ow 32), oz, oz, oz, oz, oz, oz, oz, oz, oz, oz, oz, oz, oz, oz, oz, oz, oz, oz, oz, oz, oz] (.int 0) := Arv.set Ar56 q56 S56 M56 H56 G56 (fits_nar_char _) W57 22 rfl (Nat.le_of_ble_eq_true rfl)
  have CH57 := CHr.trans CH55 (CHr.wr W57 (Safe.arv hZ0.alike V55 (by decide)) CH55.1)
  have Q57 : Keep h0 h57 [] := Q55.wr W57 (Or.inr sz_b11)
  have N57 := Fr.snoc X57 N55 g_b11
  obtain ⟨cl58, Ar58, q58, S58, M58, H58, G58⟩ := id V57
  obtain ⟨T59, h59, X59, e59, W59, st59⟩ := stC X57 hx hZ0 e57 Ar58 (j := (23 : Int32)) (inb_of S58 ⟨by decide, by decide⟩) (g := (mkF m 222 (own_F1 p1 p2 p3 p4 p5 b1 b6) [(.int 103), (.int 23), (.ref b11), (.ref b11)])) rfl rfl (hb hby at_222)
  have V59 : Arv Z h59 b11 k11 .char (44 : Int32) [(ow 114), (ow 101), (ow 108), (ow 105), (ow 97), (ow 98), (ow 108), (ow 101), (ow 32), (ow 109), (ow 101), (ow 115), (ow 115), (ow 97), (ow 103), (ow 101), (ow 32), (.int (nar .char (own_ch p2))), (.int (nar .char (own_ch p3))), (ow 32), (ow 111), (ow 102), (ow 32), (ow 103), oz, oz, oz, oz, oz, oz, oz, oz, oz, oz, oz, oz, oz, oz, oz, oz, oz, oz, oz, oz] (.int 0) := Arv.set Ar58 q58 S58 M58 H58 G58 (fits_nar_char _) W59 23 rfl (Nat.le_of_ble_eq_true rfl)
  have CH59 := CHr.trans CH57 (CHr.wr W59 (Safe.arv hZ0.alike V57 (by decide)) CH57.1)
  have Q59 : Keep h0 h59 [] := Q57.wr W59 (Or.inr sz_b11)
  have N59 := Fr.snoc X59 N57 g_b11
  obtain ⟨cl60, Ar60, q60, S60, M60, H60, G60⟩ := id V59
  obtain ⟨T61, h61, X61, e61, W61, st61⟩ := stC X59 hx hZ0 e59 Ar60 (j := (24 : Int32)) (inb_of S60 ⟨by decide, by decide⟩) (g := (mkF m 228 (own_F1 p1 p2 p3 p4 p5 b1 b6) [(.int 108), (.int 24), (.ref b11), (.ref b11)])) rfl rfl (hb hby at_228)
  have V61 : Arv Z h61 b11 k11 .char (44 : Int32) [(ow 114), (ow 101), (ow 108), (ow 105), (ow 97), (ow 98), (ow 108), (ow 101), (ow 32), (ow 109), (ow 101), (ow 115), (ow 115), (ow 97), (ow 103), (ow 101), (ow 32), (.int (nar .char (own_ch p2))), (.int (nar .char (own_ch p3))), (ow 32), (ow 111), (ow 102), (ow 32), (ow 103), (ow 108), oz, oz, oz, oz, oz, oz, oz, oz, oz, oz, oz, oz, oz, oz, oz, oz, oz, oz, oz] (.int 0) := Arv.set Ar60 q60 S60 M60 H60 G60 (fits_nar_char _) W61 24 rfl (Nat.le_of_ble_eq_true rfl)
  have CH61 := CHr.trans CH59 (CHr.wr W61 (Safe.arv hZ0.alike V59 (by decide)) CH59.1)
  have Q61 : Keep h0 h61 [] := Q59.wr W61 (Or.inr sz_b11)
  have N61 := Fr.snoc X61 N59 g_b11
  obtain ⟨cl62, Ar62, q62, S62, M62, H62, G62⟩ := id V61
  obtain ⟨T63, h63, X63, e63, W63, st63⟩ := stC X61 hx hZ0 e61 Ar62 (j := (25 : Int32)) (inb_of S62 ⟨by decide, by decide⟩) (g := (mkF m 234 (own_F1 p1 p2 p3 p4 p5 b1 b6) [(.int 111), (.int 25), (.ref b11), (.ref b11)])) rfl rfl (hb hby at_234)
  have V63 : Arv Z h63 b11 k11 .char (44 : Int32) [(ow 114), (ow 101), (ow 108), (ow 105), (ow 97), (ow 98), (ow 108), (ow 101), (ow 32), (ow 109), (ow 101), (ow 115), (ow 115), (ow 97), (ow 103), (ow 101), (ow 32), (.int (nar .char (own_ch p2))), (.int (nar .char (own_ch p3))), (ow 32), (ow 111), (ow 102), (ow 32), (ow 103), (ow 108), (ow 111), oz, oz, oz, oz, oz, oz, oz, oz, oz, oz, oz, oz, oz, oz, oz, oz, oz, oz] (.int 0) := Arv.set Ar62 q62 S62 M62 H62 G62 (fits_nar_char _) W63 25 rfl (Nat.le_of_ble_eq_true rfl)
  have CH63 := CHr.trans CH61 (CHr.wr W63 (Safe.arv hZ0.alike V61 (by decide)) CH61.1)
  have Q63 : Keep h0 h63 [] := Q61.wr W63 (Or.inr sz_b11)
  have N63 := Fr.snoc X63 N61 g_b11
  obtain ⟨cl64, Ar64, q64, S64, M64, H64, G64⟩ := id V63
  obtain ⟨T65, h65, X65, e65, W65, st65⟩ := stC X63 hx hZ0 e63 Ar64 (j := (26 : Int32)) (inb_of S64 ⟨by decide, by decide⟩) (g := (mkF m 240 (own_F1 p1 p2 p3 p4 p5 b1 b6) [(.int 98), (.int 26), (.ref b11), (.ref b11)])) rfl rfl (hb hby at_240)
  have V65 : Arv Z h65 b11 k11 .char (44 : Int32) [(ow 114), (ow 101), (ow 108), (ow 105), (ow 97), (ow 98), (ow 108), (ow 101), (ow 32), (ow 109), (ow 101), (ow 115), (ow 115), (ow 97), (ow 103), (ow 101), (ow 32), (.int (nar .char (own_ch p2))), (.int (nar .char (own_ch p3))), (ow 32), (ow 111), (ow 102), (ow 32), (ow 103), (ow 108), (ow 111), (ow 98), oz, oz, oz, oz, oz, oz, oz, oz, oz, oz, oz, oz, oz, oz, oz, oz, oz] (.int 0) := Arv.set Ar64 q64 S64 M64 H64 G64 (fits_nar_char _) W65 26 rfl (Nat.le_of_ble_eq_true rfl)
  have CH65 := CHr.trans CH63 (CHr.wr W65 (Safe.arv hZ0.alike V63 (by decide)) CH63.1)
  have Q65 : Keep h0 h65 [] := Q63.wr W65 (Or.inr sz_b11)
  have N65 := Fr.snoc X65 N63 g_b11
  obtain ⟨cl66, Ar66, q66, S66, M66, H66, G66⟩ := id V65
  obtain ⟨T67, h67, X67, e67, W67, st67⟩ := stC X65 hx hZ0 e65 Ar66 (j := (27 : Int32)) (inb_of S66 ⟨by decide, by decide⟩) (g := (mkF m 246 (own_F1 p1 p2 p3 p4 p5 b1 b6) [(.int 97), (.int 27), (.ref b11), (.ref b11)])) rfl rfl (hb hby at_246)
  have V67 : Arv Z h67 b11 k11 .char (44 : Int32) [(ow 114), (ow 101), (ow 108), (ow 105), (ow 97), (ow 98), (ow 108), (ow 101), (ow 32), (ow 109), (ow 101), (ow 115), (ow 115), (ow 97), (ow 103), (ow 101), (ow 32), (.int (nar .char (own_ch p2))), (.int (nar .char (own_ch p3))), (ow 32), (ow 111), (ow 102), (ow 32), (ow 103), (ow 108), (ow 111), (ow 98), (ow 97), oz, oz, oz, oz, oz, oz, oz, oz, oz, oz, oz, oz, oz, oz, oz, oz] (.int 0) := Arv.set Ar66 q66 S66 M66 H66 G66 (fits_nar_char _) W67 27 rfl (Nat.le_of_ble_eq_true rfl)
  have CH67 := CHr.trans CH65 (CHr.wr W67 (Safe.arv hZ0.alike V65 (by decide)) CH65.1)
  have Q67 : Keep h0 h67 [] := Q65.wr W67 (Or.inr sz_b11)
  have N67 := Fr.snoc X67 N65 g_b11
  obtain ⟨cl68, Ar68, q68, S68, M68, H68, G68⟩ := id V67
  obtain ⟨T69, h69, X69, e69, W69, st69⟩ := stC X67 hx hZ0 e67 Ar68 (j := (28 : Int32)) (inb_of S68 ⟨by decide, by decide⟩) (g := (mkF m 252 (own_F1 p1 p2 p3 p4 p5 b1 b6) [(.int 108), (.int 28), (.ref b11), (.ref b11)])) rfl rfl (hb hby at_252)
  have V69 : Arv Z h69 b11 k11 .char (44 : Int32) [(ow 114), (ow 101), (ow 108), (ow 105), (ow 97), (ow 98), (ow 108), (ow 101), (ow 32), (ow 109), (ow 101), (ow 115), (ow 115), (ow 97), (ow 103), (ow 101), (ow 32), (.int (nar .char (own_ch p2))), (.int (nar .char (own_ch p3))), (ow 32), (ow 111), (ow 102), (ow 32), (ow 103), (ow 108), (ow 111), (ow 98), (ow 97), (ow 108), oz, oz, oz, oz, oz, oz, oz, oz, oz, oz, oz, oz, oz, oz, oz] (.int 0) := Arv.set Ar68 q68 S68 M68 H68 G68 (fits_nar_char _) W69 28 rfl (Nat.le_of_ble_eq_true rfl)
  have CH69 := CHr.trans CH67 (CHr.wr W69 (Safe.arv hZ0.alike V67 (by decide)) CH67.1)
  have Q69 : Keep h0 h69 [] := Q67.wr W69 (Or.inr sz_b11)
  have N69 := Fr.snoc X69 N67 g_b11
  obtain ⟨cl70, Ar70, q70, S70, M70, H70, G70⟩ := id V69
  obtain ⟨T71, h71, X71, e71, W71, st71⟩ := stC X69 hx hZ0 e69 Ar70 (j := (29 : Int32)) (inb_of S70 ⟨by decide, by decide⟩) (g := (mkF m 258 (own_F1 p1 p2 p3 p4 p5 b1 b6) [(.int 32), (.int 29), (.ref b11), (.ref b11)])) rfl rfl (hb hby at_258)
  have V71 : Arv Z h71 b11 k11 .char (44 : Int32) [(ow 114), (ow 101), (ow 108), (ow 105), (ow 97), (ow 98), (ow 108), (ow 101), (ow 32), (ow 109), (ow 101), (ow 115), (ow 115), (ow 97), (ow 103), (ow 101), (ow 32), (.int (nar .char (own_ch p2))), (.int (nar .char (own_ch p3))), (ow 32), (ow 111), (ow 102), (ow 32), (ow 103), (ow 108), (ow 111), (ow 98), (ow 97), (ow 108), (ow 32), oz, oz, oz, oz, oz, oz, oz, oz, oz, oz, oz, oz, oz, oz] (.int 0) := Arv.set Ar70 q70 S70 M70 H70 G70 (fits_nar_char _) W71 29 rfl (Nat.le_of_ble_eq_true rfl)
  have CH71 := CHr.trans CH69 (CHr.wr W71 (Safe.arv hZ0.alike V69 (by decide)) CH69.1)
  have Q71 : Keep h0 h71 [] := Q69.wr W71 (Or.inr sz_b11)
  have N71 := Fr.snoc X71 N69 g_b11
  obtain ⟨cl72, Ar72, q72, S72, M72, H72, G72⟩ := id V71
  obtain ⟨T73, h73, X73, e73, W73, st73⟩ := stC X71 hx hZ0 e71 Ar72 (j := (30 : Int32)) (inb_of S72 ⟨by decide, by decide⟩) (g := (mkF m 264 (own_F1 p1 p2 p3 p4 p5 b1 b6) [(.int 116), (.int 30), (.ref b11), (.ref b11)])) rfl rfl (hb hby at_264)
  have V73 : Arv Z h73 b11 k11 .char (44 : Int32) [(ow 114), (ow 101), (ow 108), (ow 105), (ow 97), (ow 98), (ow 108), (ow 101), (ow 32), (ow 109), (ow 101), (ow 115), (ow 115), (ow 97), (ow 103), (ow 101), (ow 32), (.int (nar .char (own_ch p2))), (.int (nar .char (own_ch p3))), (ow 32), (ow 111), (ow 102), (ow 32), (ow 103), (ow 108), (ow 111), (ow 98), (ow 97), (ow 108), (ow 32), (ow 116), oz, oz, oz, oz, oz, oz, oz, oz, oz, oz, oz, oz, oz] (.int 0) := Arv.set Ar72 q72 S72 M72 H72 G72 (fits_nar_char _) W73 30 rfl (Nat.le_of_ble_eq_true rfl)
  have CH73 := CHr.trans CH71 (CHr.wr W73 (Safe.arv hZ0.alike V71 (by decide)) CH71.1)
  have Q73 : Keep h0 h73 [] := Q71.wr W73 (Or.inr sz_b11)
  have N73 := Fr.snoc X73 N71 g_b11
  obtain ⟨cl74, Ar74, q74, S74, M74, H74, G74⟩ := id V73
  obtain ⟨T75, h75, X75, e75, W75, st75⟩ := stC X73 hx hZ0 e73 Ar74 (j := (31 : Int32)) (inb_of S74 ⟨by decide, by decide⟩) (g := (mkF m 270 (own_F1 p1 p2 p3 p4 p5 b1 b6) [(.int 114), (.int 31), (.ref b11), (.ref b11)])) rfl rfl (hb hby at_270)
  have V75 : Arv Z h75 b11 k11 .char (44 : Int32) [(ow 114), (ow 101), (ow 108), (ow 105), (ow 97), (ow 98), (ow 108), (ow 101), (ow 32), (ow 109), (ow 101), (ow 115), (ow 115), (ow 97), (ow 103), (ow 101), (ow 32), (.int (nar .char (own_ch p2))), (.int (nar .char (own_ch p3))), (ow 32), (ow 111), (ow 102), (ow 32), (ow 103), (ow 108), (ow 111), (ow 98), (ow 97), (ow 108), (ow 32), (ow 116), (ow 114), oz, oz, oz, oz, oz, oz, oz, oz, oz, oz, oz, oz] (.int 0) := Arv.set Ar74 q74 S74 M74 H74 G74 (fits_nar_char _) W75 31 rfl (Nat.le_of_ble_eq_true rfl)
  have CH75 := CHr.trans CH73 (CHr.wr W75 (Safe.arv hZ0.alike V73 (by decide)) CH73.1)
  have Q75 : Keep h0 h75 [] := Q73.wr W75 (Or.inr sz_b11)
  have N75 := Fr.snoc X75 N73 g_b11
  obtain ⟨cl76, Ar76, q76, S76, M76, H76, G76⟩ := id V75
  obtain ⟨T77, h77, X77, e77, W77, st77⟩ := stC X75 hx hZ0 e75 Ar76 (j := (32 : Int32)) (inb_of S76 ⟨by decide, by decide⟩) (g := (mkF m 276 (own_F1 p1 p2 p3 p4 p5 b1 b6) [(.int 97), (.int 32), (.ref b11), (.ref b11)])) rfl rfl (hb hby at_276)
  have V77 : Arv Z h77 b11 k11 .char (44 : Int32) [(ow 114), (ow 101), (ow 108), (ow 105), (ow 97), (ow 98), (ow 108), (ow 101), (ow 32), (ow 109), (ow 101), (ow 115), (ow 115), (ow 97), (ow 103), (ow 101), (ow 32), (.int (nar .char (own_ch p2))), (.int (nar .char (own_ch p3))), (ow 32), (ow 111), (ow 102), (ow 32), (ow 103), (ow 108), (ow 111), (ow 98), (ow 97), (ow 108), (ow 32), (ow 116), (ow 114), (ow 97), oz, oz, oz, oz, oz, oz, oz, oz, oz, oz, oz] (.int 0) := Arv.set Ar76 q76 S76 M76 H76 G76 (fits_nar_char _) W77 32 rfl (Nat.le_of_ble_eq_true rfl)
  have CH77 := CHr.trans CH75 (CHr.wr W77 (Safe.arv hZ0.alike V75 (by decide)) CH75.1)
  have Q77 : Keep h0 h77 [] := Q75.wr W77 (Or.inr sz_b11)
  have N77 := Fr.snoc X77 N75 g_b11
  obtain ⟨cl78, Ar78, q78, S78, M78, H78, G78⟩ := id V77
  obtain ⟨T79, h79, X79, e79, W79, st79⟩ := stC X77 hx hZ0 e77 Ar78 (j := (33 : Int32)) (inb_of S78 ⟨by decide, by decide⟩) (g := (mkF m 282 (own_F1 p1 p2 p3 p4 p5 b1 b6) [(.int 110), (.int 33), (.ref b11), (.ref b11)])) rfl rfl (hb hby at_282)
  have V79 : Arv Z h79 b11 k11 .char (44 : Int32) [(ow 114), (ow 101), (ow 108), (ow 105), (ow 97), (ow 98), (ow 108), (ow 101), (ow 32), (ow 109), (ow 101), (ow 115), (ow 115), (ow 97), (ow 103), (ow 101), (ow 32), (.int (nar .char (own_ch p2))), (.int (nar .char (own_ch p3))), (ow 32), (ow 111), (ow 102), (ow 32), (ow 103), (ow 108), (ow 111), (ow 98), (ow 97), (ow 108), (ow 32), (ow 116), (ow 114), (ow 97), (ow 110), oz, oz, oz, oz, oz, oz, oz, oz, oz, oz] (.int 0) := Arv.set Ar78 q78 S78 M78 H78 G78 (fits_nar_char _) W79 33 rfl (Nat.le_of_ble_eq_true rfl)
  have CH79 := CHr.trans CH77 (CHr.wr W79 (Safe.arv hZ0.alike V77 (by decide)) CH77.1)
  have Q79 : Keep h0 h79 [] := Q77.wr W79 (Or.inr sz_b11)
  have N79 := Fr.snoc X79 N77 g_b11
  obtain ⟨cl80, Ar80, q80, S80, M80, H80, G80⟩ := id V79
  obtain ⟨T81, h81, X81, e81, W81, st81⟩ := stC X79 hx hZ0 e79 Ar80 (j := (34 : Int32)) (inb_of S80 ⟨by decide, by decide⟩) (g := (mkF m 288 (own_F1 p1 p2 p3 p4 p5 b1 b6) [(.int 115), (.int 34), (.ref b11), (.ref b11)])) rfl rfl (hb hby at_288)
  have V81 : Arv Z h81 b11 k11 .char (44 : Int32) [(ow 114), (ow 101), (ow 108), (ow 105), (ow 97), (ow 98), (ow 108), (ow 101), (ow 32), (ow 109), (ow 101), (ow 115), (ow 115), (ow 97), (ow 103), (ow 101), (ow 32), (.int (nar .char (own_ch p2))), (.int (nar .char (own_ch p3))), (ow 32), (ow 111), (ow 102), (ow 32), (ow 103), (ow 108), (ow 111), (ow 98), (ow 97), (ow 108), (ow 32), (ow 116), (ow 114), (ow 97), (ow 110), (ow 115), oz, oz, oz, oz, oz, oz, oz, oz, oz] (.int 0) := Arv.set Ar80 q80 S80 M80 H80 G80 (fits_nar_char _) W81 34 rfl (Nat.le_of_ble_eq_true rfl)
  have CH81 := CHr.trans CH79 (CHr.wr W81 (Safe.arv hZ0.alike V79 (by decide)) CH79.1)
  have Q81 : Keep h0 h81 [] := Q79.wr W81 (Or.inr sz_b11)
  have N81 := Fr.snoc X81 N79 g_b11
  obtain ⟨cl82, Ar82, q82, S82, M82, H82, G82⟩ := id V81
  obtain ⟨T83, h83, X83, e83, W83, st83⟩ := stC X81 hx hZ0 e81 Ar82 (j := (35 : Int32)) (inb_of S82 ⟨by decide, by decide⟩) (g := (mkF m 294 (own_F1 p1 p2 p3 p4 p5 b1 b6) [(.int 97), (.int 35), (.ref b11), (.ref b11)])) rfl rfl (hb hby at_294)
  have V83 : Arv Z h83 b11 k11 .char (44 : Int32) [(ow 114), (ow 101), (ow 108), (ow 105), (ow 97), (ow 98), (ow 108), (ow 101), (ow 32), (ow 109), (ow 101), (ow 115), (ow 115), (ow 97), (ow 103), (ow 101), (ow 32), (.int (nar .char (own_ch p2))), (.int (nar .char (own_ch p3))), (ow 32), (ow 111), (ow 102), (ow 32), (ow 103), (ow 108), (ow 111), (ow 98), (ow 97), (ow 108), (ow 32), (ow 116), (ow 114), (ow 97), (ow 110), (ow 115), (ow 97), oz, oz, oz, oz, oz, oz, oz, oz] (.int 0) := Arv.set Ar82 q82 S82 M82 H82 G82 (fits_nar_char _) W83 35 rfl (Nat.le_of_ble_eq_true rfl)
  have CH83 := CHr.trans CH81 (CHr.wr W83 (Safe.arv hZ0.alike V81 (by decide)) CH81.1)
  have Q83 : Keep h0 h83 [] := Q81.wr W83 (Or.inr sz_b11)
  have N83 := Fr.snoc X83 N81 g_b11
  obtain ⟨cl84, Ar84, q84, S84, M84, H84, G84⟩ := id V83
  obtain ⟨T85, h85, X85, e85, W85, st85⟩ := stC X83 hx hZ0 e83 Ar84 (j := (36 : Int32)) (inb_of S84 ⟨by decide, by decide⟩) (g := (mkF m 300 (own_F1 p1 p2 p3 p4 p5 b1 b6) [(.int 99), (.int 36), (.ref b11), (.ref b11)])) rfl rfl (hb hby at_300)
  have V85 : Arv Z h85 b11 k11 .char (44 : Int32) [(ow 114), (ow 101), (ow 108), (ow 105), (ow 97), (ow 98), (ow 108), (ow 101), (ow 32), (ow 109), (ow 101), (ow 115), (ow 115), (ow 97), (ow 103), (ow 101), (ow 32), (.int (nar .char (own_ch p2))), (.int (nar .char (own_ch p3))), (ow 32), (ow 111), (ow 102), (ow 32), (ow 103), (ow 108), (ow 111), (ow 98), (ow 97), (ow 108), (ow 32), (ow 116), (ow 114), (ow 97), (ow 110), (ow 115), (ow 97), (ow 99), oz, oz, oz, oz, oz, oz, oz] (.int 0) := Arv.set Ar84 q84 S84 M84 H84 G84 (fits_nar_char _) W85 36 rfl (Nat.le_of_ble_eq_true rfl)
  have CH85 := CHr.trans CH83 (CHr.wr W85 (Safe.arv hZ0.alike V83 (by decide)) CH83.1)
  have Q85 : Keep h0 h85 [] := Q83.wr W85 (Or.inr sz_b11)
  have N85 := Fr.snoc X85 N83 g_b11
  obtain ⟨cl86, Ar86, q86, S86, M86, H86, G86⟩ := id V85
  obtain ⟨T87, h87, X87, e87, W87, st87⟩ := stC X85 hx hZ0 e85 Ar86 (j := (37 : Int32)) (inb_of S86 ⟨by decide, by decide⟩) (g := (mkF m 306 (own_F1 p1 p2 p3 p4 p5 b1 b6) [(.int 116), (.int 37), (.ref b11), (.ref b11)])) rfl rfl (hb hby at_306)
  have V87 : Arv Z h87 b11 k11 .char (44 : Int32) [(ow 114), (ow 101), (ow 108), (ow 105), (ow 97), (ow 98), (ow 108), (ow 101), (ow 32), (ow 109), (ow 101), (ow 115), (ow 115), (ow 97), (ow 103), (ow 101), (ow 32), (.int (nar .char (own_ch p2))), (.int (nar .char (own_ch p3))), (ow 32), (ow 111), (ow 102), (ow 32), (ow 103), (ow 108), (ow 111), (ow 98), (ow 97), (ow 108), (ow 32), (ow 116), (ow 114), (ow 97), (ow 110), (ow 115), (ow 97), (ow 99), (ow 116), oz, oz, oz, oz, oz, oz] (.int 0) := Arv.set Ar86 q86 S86 M86 H86 G86 (fits_nar_char _) W87 37 rfl (Nat.le_of_ble_eq_true rfl)
  have CH87 := CHr.trans CH85 (CHr.wr W87 (Safe.arv hZ0.alike V85 (by decide)) CH85.1)
  have Q87 : Keep h0 h87 [] := Q85.wr W87 (Or.inr sz_b11)
  have N87 := Fr.snoc X87 N85 g_b11
  obtain ⟨cl88, Ar88, q88, S88, M88, H88, G88⟩ := id V87
  obtain ⟨T89, h89, X89, e89, W89, st89⟩ := stC X87 hx hZ0 e87 Ar88 (j := (38 : Int32)) (inb_of S88 ⟨by decide, by decide⟩) (g := (mkF m 312 (own_F1 p1 p2 p3 p4 p5 b1 b6) [(.int 105), (.int 38), (.ref b11), (.ref b11)])) rfl rfl (hb hby at_312)
  have V89 : Arv Z h89 b11 k11 .char (44 : Int32) [(ow 114), (ow 101), (ow 108), (ow 105), (ow 97), (ow 98), (ow 108), (ow 101), (ow 32), (ow 109), (ow 101), (ow 115), (ow 115), (ow 97), (ow 103), (ow 101), (ow 32), (.int (nar .char (own_ch p2))), (.int (nar .char (own_ch p3))), (ow 32), (ow 111), (ow 102), (ow 32), (ow 103), (ow 108), (ow 111), (ow 98), (ow 97), (ow 108), (ow 32), (ow 116), (ow 114), (ow 97), (ow 110), (ow 115), (ow 97), (ow 99), (ow 116), (ow 105), oz, oz, oz, oz, oz] (.int 0) := Arv.set Ar88 q88 S88 M88 H88 G88 (fits_nar_char _) W89 38 rfl (Nat.le_of_ble_eq_true rfl)
  have CH89 := CHr.trans CH87 (CHr.wr W89 (Safe.arv hZ0.alike V87 (by decide)) CH87.1)
  have Q89 : Keep h0 h89 [] := Q87.wr W89 (Or.inr sz_b11)
  have N89 := Fr.snoc X89 N87 g_b11
  obtain ⟨cl90, Ar90, q90, S90, M90, H90, G90⟩ := id V89
  obtain ⟨T91, h91, X91, e91, W91, st91⟩ := stC X89 hx hZ0 e89 Ar90 (j := (39 : Int32)) (inb_of S90 ⟨by decide, by decide⟩) (g := (mkF m 318 (own_F1 p1 p2 p3 p4 p5 b1 b6) [(.int 111), (.int 39), (.ref b11), (.ref b11)])) rfl rfl (hb hby at_318)
  have V91 : Arv Z h91 b11 k11 .char (44 : Int32) [(ow 114), (ow 101), (ow 108), (ow 105), (ow 97), (ow 98), (ow 108), (ow 101), (ow 32), (ow 109), (ow 101), (ow 115), (ow 115), (ow 97), (ow 103), (ow 101), (ow 32), (.int (nar .char (own_ch p2))), (.int (nar .char (own_ch p3))), (ow 32), (ow 111), (ow 102), (ow 32), (ow 103), (ow 108), (ow 111), (ow 98), (ow 97), (ow 108), (ow 32), (ow 116), (ow 114), (ow 97), (ow 110), (ow 115), (ow 97), (ow 99), (ow 116), (ow 105), (ow 111), oz, oz, oz, oz] (.int 0) := Arv.set Ar90 q90 S90 M90 H90 G90 (fits_nar_char _) W91 39 rfl (Nat.le_of_ble_eq_true rfl)
  have CH91 := CHr.trans CH89 (CHr.wr W91 (Safe.arv hZ0.alike V89 (by decide)) CH89.1)
  have Q91 : Keep h0 h91 [] := Q89.wr W91 (Or.inr sz_b11)
  have N91 := Fr.snoc X91 N89 g_b11
  obtain ⟨cl92, Ar92, q92, S92, M92, H92, G92⟩ := id V91
  obtain ⟨T93, h93, X93, e93, W93, st93⟩ := stC X91 hx hZ0 e91 Ar92 (j := (40 : Int32)) (inb_of S92 ⟨by decide, by decide⟩) (g := (mkF m 324 (own_F1 p1 p2 p3 p4 p5 b1 b6) [(.int 110), (.int 40), (.ref b11), (.ref b11)])) rfl rfl (hb hby at_324)
  have V93 : Arv Z h93 b11 k11 .char (44 : Int32) [(ow 114), (ow 101), (ow 108), (ow 105), (ow 97), (ow 98), (ow 108), (ow 101), (ow 32), (ow 109), (ow 101), (ow 115), (ow 115), (ow 97), (ow 103), (ow 101), (ow 32), (.int (nar .char (own_ch p2))), (.int (nar .char (own_ch p3))), (ow 32), (ow 111), (ow 102), (ow 32), (ow 103), (ow 108), (ow 111), (ow 98), (ow 97), (ow 108), (ow 32), (ow 116), (ow 114), (ow 97), (ow 110), (ow 115), (ow 97), (ow 99), (ow 116), (ow 105), (ow 111), (ow 110), oz, oz, oz] (.int 0) := Arv.set Ar92 q92 S92 M92 H92 G92 (fits_nar_char _) W93 40 rfl (Nat.le_of_ble_eq_true rfl)
  have CH93 := CHr.trans CH91 (CHr.wr W93 (Safe.arv hZ0.alike V91 (by decide)) CH91.1)
  have Q93 : Keep h0 h93 [] := Q91.wr W93 (Or.inr sz_b11)
  have N93 := Fr.snoc X93 N91 g_b11
  obtain ⟨cl94, Ar94, q94, S94, M94, H94, G94⟩ := id V93
  obtain ⟨T95, h95, X95, e95, W95, st95⟩ := stC X93 hx hZ0 e93 Ar94 (j := (41 : Int32)) (inb_of S94 ⟨by decide, by decide⟩) (g := (mkF m 330 (own_F1 p1 p2 p3 p4 p5 b1 b6) [(.int 32), (.int 41), (.ref b11), (.ref b11)])) rfl rfl (hb hby at_330)
  have V95 : Arv Z h95 b11 k11 .char (44 : Int32) [(ow 114), (ow 101), (ow 108), (ow 105), (ow 97), (ow 98), (ow 108), (ow 101), (ow 32), (ow 109), (ow 101), (ow 115), (ow 115), (ow 97), (ow 103), (ow 101), (ow 32), (.int (nar .char (own_ch p2))), (.int (nar .char (own_ch p3))), (ow 32), (ow 111), (ow 102), (ow 32), (ow 103), (ow 108), (ow 111), (ow 98), (ow 97), (ow 108), (ow 32), (ow 116), (ow 114), (ow 97), (ow 110), (ow 115), (ow 97), (ow 99), (ow 116), (ow 105), (ow 111), (ow 110), (ow 32), (.int 0), (.int 0)] (.int 0) := Arv.set Ar94 q94 S94 M94 H94 G94 (fits_nar_char _) W95 41 rfl (Nat.le_of_ble_eq_true rfl)
  have CH95 := CHr.trans CH93 (CHr.wr W95 (Safe.arv hZ0.alike V93 (by decide)) CH93.1)
  have Q95 : Keep h0 h95 [] := Q93.wr W95 (Or.inr sz_b11)
  have N95 := Fr.snoc X95 N93 g_b11
  obtain ⟨cl96, Ar96, q96, S96, M96, H96, G96⟩ := id V95
  obtain ⟨T97, h97, X97, e97, W97, st97⟩ := stC X95 hx hZ0 e95 Ar96 (j := (42 : Int32)) (inb_of S96 ⟨by decide, by decide⟩) (g := (mkF m 336 (own_F1 p1 p2 p3 p4 p5 b1 b6) [(.int (own_ch p4)), (.int 42), (.ref b11), (.ref b11)])) rfl rfl (hb hby at_336)
  have V97 : Arv Z h97 b11 k11 .char (44 : Int32) [(ow 114), (ow 101), (ow 108), (ow 105), (ow 97), (ow 98), (ow 108), (ow 101), (ow 32), (ow 109), (ow 101), (ow 115), (ow 115), (ow 97), (ow 103), (ow 101), (ow 32), (.int (nar .char (own_ch p2))), (.int (nar .char (own_ch p3))), (ow 32), (ow 111), (ow 102), (ow 32), (ow 103), (ow 108), (ow 111), (ow 98), (ow 97), (ow 108), (ow 32), (ow 116), (ow 114), (ow 97), (ow 110), (ow 115), (ow 97), (ow 99), (ow 116), (ow 105), (ow 111), (ow 110), (ow 32), (.int (nar .char (own_ch p4))), (.int 0)] (.int 0) := Arv.set Ar96 q96 S96 M96 H96 G96 (fits_nar_char _) W97 42 rfl (Nat.le_of_ble_eq_true rfl)
  have CH97 := CHr.trans CH95 (CHr.wr W97 (Safe.arv hZ0.alike V95 (by decide)) CH95.1)
  have Q97 : Keep h0 h97 [] := Q95.wr W97 (Or.inr sz_b11)
  have N97 := Fr.snoc X97 N95 g_b11
  obtain ⟨cl98, Ar98, q98, S98, M98, H98, G98⟩ := id V97
  obtain ⟨T99, h99, X99, e99, W99, st99⟩ := stC X97 hx hZ0 e97 Ar98 (j := (43 : Int32)) (inb_of S98 ⟨by decide, by decide⟩) (g := (mkF m 342 (own_F1 p1 p2 p3 p4 p5 b1 b6) [(.int (own_ch p5)), (.int 43), (.ref b11), (.ref b11)])) rfl rfl (hb hby at_342)
  have V99 : Arv Z h99 b11 k11 .char (44 : Int32) [(ow 114), (ow 101), (ow 108), (ow 105), (ow 97), (ow 98), (ow 108), (ow 101), (ow 32), (ow 109), (ow 101), (ow 115), (ow 115), (ow 97), (ow 103), (ow 101), (ow 32), (.int (nar .char (own_ch p2))), (.int (nar .char (own_ch p3))), (ow 32), (ow 111), (ow 102), (ow 32), (ow 103), (ow 108), (ow 111), (ow 98), (ow 97), (ow 108), (ow 32), (ow 116), (ow 114), (ow 97), (ow 110), (ow 115), (ow 97), (ow 99), (ow 116), (ow 105), (ow 111), (ow 110), (ow 32), (.int (nar .char (own_ch p4))), (.int (nar .char (own_ch p5)))] (.int 0) := Arv.set Ar98 q98 S98 M98 H98 G98 (fits_nar_char _) W99 43 rfl (Nat.le_of_ble_eq_true rfl)
  have CH99 := CHr.trans CH97 (CHr.wr W99 (Safe.arv hZ0.alike V97 (by decide)) CH97.1)
  have Q99 : Keep h0 h99 [] := Q97.wr W99 (Or.inr sz_b11)
  have N99 := Fr.snoc X99 N97 g_b11
  have ck630_0 : Sta Z h99 "java/lang/String" "COMPACT_STRINGS" "Z" (.int zc) := (((((((((((((((((((((((((((((((((((((((((((((((((((S_COMPACT_STRINGS_.ext E1).wr W3).wr W5).ext E6).wr W8).wr W10).ext E11).wr W13).wr W15).wr W17).wr W19).wr W21).wr W23).wr W25).wr W27).wr W29).wr W31).wr W33).wr W35).wr W37).wr W39).wr W41).wr W43).wr W45).wr W47).wr W49).wr W51).wr W53).wr W55).wr W57).wr W59).wr W61).wr W63).wr W65).wr W67).wr W69).wr W71).wr W73).wr W75).wr W77).wr W79).wr W81).wr W83).wr W85).wr W87).wr W89).wr W91).wr W93).wr W95).wr W97).wr W99)
  have ck630_2 : Sta Z h99 "java/nio/charset/StandardCharsets" "UTF_8" "Ljava/nio/charset/Charset;" (.ref cu) := (((((((((((((((((((((((((((((((((((((((((((((((((((S_UTF_8_.ext E1).wr W3).wr W5).ext E6).wr W8).wr W10).ext E11).wr W13).wr W15).wr W17).wr W19).wr W21).wr W23).wr W25).wr W27).wr W29).wr W31).wr W33).wr W35).wr W37).wr W39).wr W41).wr W43).wr W45).wr W47).wr W49).wr W51).wr W53).wr W55).wr W57).wr W59).wr W61).wr W63).wr W65).wr W67).wr W69).wr W71).wr W73).wr W75).wr W77).wr W79).wr W81).wr W83).wr W85).wr W87).wr W89).wr W91).wr W93).wr W95).wr W97).wr W99)
  have ck630_3 : Sta Z h99 "sun/nio/cs/UTF_8" "INSTANCE" "Lsun/nio/cs/UTF_8;" (.ref cu) := (((((((((((((((((((((((((((((((((((((((((((((((((((S_INSTANCE_.ext E1).wr W3).wr W5).ext E6).wr W8).wr W10).ext E11).wr W13).wr W15).wr W17).wr W19).wr W21).wr W23).wr W25).wr W27).wr W29).wr W31).wr W33).wr W35).wr W37).wr W39).wr W41).wr W43).wr W45).wr W47).wr W49).wr W51).wr W53).wr W55).wr W57).wr W59).wr W61).wr W63).wr W65).wr W67).wr W69).wr W71).wr W73).wr W75).wr W77).wr W79).wr W81).wr W83).wr W85).wr W87).wr W89).wr W91).wr W93).wr W95).wr W97).wr W99)
  have nq0 : b1 ≠ b6 := (Nat.ne_of_lt (Nat.lt_of_lt_of_le V5.lt (Nat.le_of_eq gg6.symm)))
  have nq1 : b1 ≠ b11 := (Nat.ne_of_lt (Nat.lt_of_lt_of_le (((V5.ext E6).other W8 nq0).other W10 nq0).lt (Nat.le_of_eq gg11.symm)))
  have ck630_7 : Arv Z h99 b1 k1 .char (2 : Int32) [(.int (nar .char (own_ch p2))), (.int (nar .char (own_ch p3)))] (.int 0) := ((((((((((((((((((((((((((((((((((((((((((((((((V5.ext E6).other W8 nq0).other W10 nq0).ext E11).other W13 nq1).other W15 nq1).other W17 nq1).other W19 nq1).other W21 nq1).other W23 nq1).other W25 nq1).other W27 nq1).other W29 nq1).other W31 nq1).other W33 nq1).other W35 nq1).other W37 nq1).other W39 nq1).other W41 nq1).other W43 nq1).other W45 nq1).other W47 nq1).other W49 nq1).other W51 nq1).other W53 nq1).other W55 nq1).other W57 nq1).other W59 nq1).other W61 nq1).other W63 nq1).other W65 nq1).other W67 nq1).other W69 nq1).other W71 nq1).other W73 nq1).other W75 nq1).other W77 nq1).other W79 nq1).other W81 nq1).other W83 nq1).other W85 nq1).other W87 nq1).other W89 nq1).other W91 nq1).other W93 nq1).other W95 nq1).other W97 nq1).other W99 nq1)
  have nq2 : b6 ≠ b11 := (Nat.ne_of_lt (Nat.lt_of_lt_of_le V10.lt (Nat.le_of_eq gg11.symm)))
  have ck630_8 : Arv Z h99 b6 k6 .char (2 : Int32) [(.int (nar .char (own_ch p4))), (.int (nar .char (own_ch p5)))] (.int 0) := (((((((((((((((((((((((((((((((((((((((((((((V10.ext E11).other W13 nq2).other W15 nq2).other W17 nq2).other W19 nq2).other W21 nq2).other W23 nq2).other W25 nq2).other W27 nq2).other W29 nq2).other W31 nq2).other W33 nq2).other W35 nq2).other W37 nq2).other W39 nq2).other W41 nq2).other W43 nq2).other W45 nq2).other W47 nq2).other W49 nq2).other W51 nq2).other W53 nq2).other W55 nq2).other W57 nq2).other W59 nq2).other W61 nq2).other W63 nq2).other W65 nq2).other W67 nq2).other W69 nq2).other W71 nq2).other W73 nq2).other W75 nq2).other W77 nq2).other W79 nq2).other W81 nq2).other W83 nq2).other W85 nq2).other W87 nq2).other W89 nq2).other W91 nq2).other W93 nq2).other W95 nq2).other W97 nq2).other W99 nq2)
  have zk630 : n0 ≤ h99.size := (Nat.le_trans (Nat.le_trans (Nat.le_trans (Nat.le_trans (Nat.le_trans (Nat.le_trans (Nat.le_trans (Nat.le_trans (Nat.le_trans (Nat.le_trans (Nat.le_trans (Nat.le_trans (Nat.le_trans (Nat.le_trans (Nat.le_trans (Nat.le_trans (Nat.le_trans (Nat.le_trans (Nat.le_trans (Nat.le_trans (Nat.le_trans (Nat.le_trans (Nat.le_trans (Nat.le_trans (Nat.le_trans (Nat.le_trans (Nat.le_trans (Nat.le_trans (Nat.le_trans (Nat.le_trans (Nat.le_trans (Nat.le_trans (Nat.le_trans (Nat.le_trans (Nat.le_trans (Nat.le_trans (Nat.le_trans (Nat.le_trans (Nat.le_trans (Nat.le_trans (Nat.le_trans (Nat.le_trans (Nat.le_trans (Nat.le_trans (Nat.le_trans (Nat.le_trans (Nat.le_trans (Nat.le_trans (Nat.le_trans (Nat.le_trans (Nat.le_trans Z0 E1.1) (Keep.of_wr W3).1) (Keep.of_wr W5).1) E6.1) (Keep.of_wr W8).1) (Keep.of_wr W10).1) E11.1) (Keep.of_wr W13).1) (Keep.of_wr W15).1) (Keep.of_wr W17).1) (Keep.of_wr W19).1) (Keep.of_wr W21).1) (Keep.of_wr W23).1) (Keep.of_wr W25).1) (Keep.of_wr W27).1) (Keep.of_wr W29).1) (Keep.of_wr W31).1) (Keep.of_wr W33).1) (Keep.of_wr W35).1) (Keep.of_wr W37).1) (Keep.of_wr W39).1) (Keep.of_wr W41).1) (Keep.of_wr W43).1) (Keep.of_wr W45).1) (Keep.of_wr W47).1) (Keep.of_wr W49).1) (Keep.of_wr W51).1) (Keep.of_wr W53).1) (Keep.of_wr W55).1) (Keep.of_wr W57).1) (Keep.of_wr W59).1) (Keep.of_wr W61).1) (Keep.of_wr W63).1) (Keep.of_wr W65).1) (Keep.of_wr W67).1) (Keep.of_wr W69).1) (Keep.of_wr W71).1) (Keep.of_wr W73).1) (Keep.of_wr W75).1) (Keep.of_wr W77).1) (Keep.of_wr W79).1) (Keep.of_wr W81).1) (Keep.of_wr W83).1) (Keep.of_wr W85).1) (Keep.of_wr W87).1) (Keep.of_wr W89).1) (Keep.of_wr W91).1) (Keep.of_wr W93).1) (Keep.of_wr W95).1) (Keep.of_wr W97).1) (Keep.of_wr W99).1)
  have hkk630 := (Nat.le_trans (Nat.le_trans (Nat.le_trans (Nat.le_trans (Nat.le_trans (Nat.le_trans (Nat.le_trans (Nat.le_trans (Nat.le_trans (Nat.le_trans (Nat.le_trans (Nat.le_trans (Nat.le_trans (Nat.le_trans (Nat.le_trans (Nat.le_trans (Nat.le_trans (Nat.le_trans (Nat.le_trans (Nat.le_trans (Nat.le_trans (Nat.le_trans (Nat.le_trans (Nat.le_trans (Nat.le_trans (Nat.le_trans (Nat.le_trans (Nat.le_trans (Nat.le_trans (Nat.le_trans (Nat.le_trans (Nat.le_trans (Nat.le_trans (Nat.le_trans (Nat.le_trans (Nat.le_trans (Nat.le_trans (Nat.le_trans (Nat.le_trans (Nat.le_trans (Nat.le_trans (Nat.le_trans (Nat.le_trans (Nat.le_trans (Nat.le_trans (Nat.le_trans (Nat.le_trans (Nat.le_trans (Nat.le_trans (Nat.le_trans (Nat.le_trans hk0 E1.1) (Keep.of_wr W3).1) (Keep.of_wr W5).1) E6.1) (Keep.of_wr W8).1) (Keep.of_wr W10).1) E11.1) (Keep.of_wr W13).1) (Keep.of_wr W15).1) (Keep.of_wr W17).1) (Keep.of_wr W19).1) (Keep.of_wr W21).1) (Keep.of_wr W23).1) (Keep.of_wr W25).1) (Keep.of_wr W27).1) (Keep.of_wr W29).1) (Keep.of_wr W31).1) (Keep.of_wr W33).1) (Keep.of_wr W35).1) (Keep.of_wr W37).1) (Keep.of_wr W39).1) (Keep.of_wr W41).1) (Keep.of_wr W43).1) (Keep.of_wr W45).1) (Keep.of_wr W47).1) (Keep.of_wr W49).1) (Keep.of_wr W51).1) (Keep.of_wr W53).1) (Keep.of_wr W55).1) (Keep.of_wr W57).1) (Keep.of_wr W59).1) (Keep.of_wr W61).1) (Keep.of_wr W63).1) (Keep.of_wr W65).1) (Keep.of_wr W67).1) (Keep.of_wr W69).1) (Keep.of_wr W71).1) (Keep.of_wr W73).1) (Keep.of_wr W75).1) (Keep.of_wr W77).1) (Keep.of_wr W79).1) (Keep.of_wr W81).1) (Keep.of_wr W83).1) (Keep.of_wr W85).1) (Keep.of_wr W87).1) (Keep.of_wr W89).1) (Keep.of_wr W91).1) (Keep.of_wr W93).1) (Keep.of_wr W95).1) (Keep.of_wr W97).1) (Keep.of_wr W99).1)
  obtain ⟨LLk630, Xk630, Nk630⟩ := own_gen X99 N99
  obtain ⟨T100, h100, X100, e100, E100, A100, D100, -, st100⟩ := newO Xk630 hx hZ0 hown0 (own_t hw 1 rfl) (own_t hw 2 rfl) (own_t hw 3 rfl) e99 (g := (mkF m 630 #[.val (.int p1), .val (.int p2), .val (.int p3), .val (.int p4), .val (.int p5), .val (.int 1), .val (.int (own_ch p2)), .val (.int (own_ch p3)), .val (.int (own_ch p4)), .val (.int (own_ch p5)), .val (.ref b1), .val (.ref b6), .val (.ref b11), .unset, .unset, .unset] [])) rfl (hb hby at_630) (by decide) (by decide)
  obtain ⟨b100, gg100⟩ : ∃ z, z = h99.size := ⟨_, rfl⟩
  rw [← gg100] at A100 D100 st100
  have CH100 := CHr.trans CH99 (CHr.ext E100 CH99.1)
  have g_b100 : n0 ≤ b100 := Nat.le_trans zk630 (Nat.le_of_eq gg100.symm)
  have sz_b100 : h0.size ≤ b100 := Nat.le_trans Q99.1 (Nat.le_of_eq gg100.symm)
  have Q100 : Keep h0 h100 [] := Q99.ext E100
  have F_coder_b100 : Fld Z h100 b100 "java/lang/String" "coder" "B" (.int 0) := D100 (Or.inr (own_t hw 27 rfl)) (ty := .byte) (by decide)
  have F_value_b100 : Fld Z h100 b100 "java/lang/String" "value" "[B" .null := D100 (Or.inr (own_t hw 29 rfl)) (ty := (.array .byte)) (by decide)
  have hp_b100 : ∀ c ∈ ([(nar .char 114), (nar .char 101), (nar .char 108), (nar .char 105), (nar .char 97), (nar .char 98), (nar .char 108), (nar .char 101), (nar .char 32), (nar .char 109), (nar .char 101), (nar .char 115), (nar .char 115), (nar .char 97), (nar .char 103), (nar .char 101), (nar .char 32), (nar .char (own_ch p2)), (nar .char (own_ch p3)), (nar .char 32), (nar .char 111), (nar .char 102), (nar .char 32), (nar .char 103), (nar .char 108), (nar .char 111), (nar .char 98), (nar .char 97), (nar .char 108), (nar .char 32), (nar .char 116), (nar .char 114), (nar .char 97), (nar .char 110), (nar .char 115), (nar .char 97), (nar .char 99), (nar .char 116), (nar .char 105), (nar .char 111), (nar .char 110), (nar .char 32), (nar .char (own_ch p4)), (nar .char (own_ch p5))] : List Int32), ¬ c < 0 ∧ ¬ (255 : Int32) < c := (own_cons (by decide) (own_cons (by decide) (own_cons (by decide) (own_cons (by decide) (own_cons (by decide) (own_cons (by decide) (own_cons (by decide) (own_cons (by decide) (own_cons (by decide) (own_cons (by decide) (own_cons (by decide) (own_cons (by decide) (own_cons (by decide) (own_cons (by decide) (own_cons (by decide) (own_cons (by decide) (own_cons (by decide) (own_cons (own_ch_rng _) (own_cons (own_ch_rng _) (own_cons (by decide) (own_cons (by decide) (own_cons (by decide) (own_cons (by decide) (own_cons (by decide) (own_cons (by decide) (own_cons (by decide) (own_cons (by decide) (own_cons (by decide) (own_cons (by decide) (own_cons (by decide) (own_cons (by decide) (own_cons (by decide) (own_cons (by decide) (own_cons (by decide) (own_cons (by decide) (own_cons (by decide) (own_cons (by decide) (own_cons (by decide) (own_cons (by decide) (own_cons (by decide) (own_cons (by decide) (own_cons (by decide) (own_cons (own_ch_rng _) (own_cons (own_ch_rng _) own_nil0))))))))))))))))))))))))))))))))))))))))))))
  obtain ⟨_, _, ⟨T101, LL101, kk101, nn101⟩, -, X101, ⟨Lc101, hQ101, l101, y101, z101⟩, st101⟩ := X100.specialBack hx (y := (⟨"java/lang/String", "<init>", "([C)V"⟩ : MethodName)) rfl hown0 (mvT hZ0 (own_t hw 4 rfl)) (mvT hZ0 (own_t hw 5 rfl)) (mvT hZ0 (own_t hw 6 rfl)) (by decide) (StrChars.Road.backV (W := 1) hZ0 (own_hws Z a0 hw) (kI := 4) (own_t hw 2 rfl) (cs := ([(nar .char 114), (nar .char 101), (nar .char 108), (nar .char 105), (nar .char 97), (nar .char 98), (nar .char 108), (nar .char 101), (nar .char 32), (nar .char 109), (nar .char 101), (nar .char 115), (nar .char 115), (nar .char 97), (nar .char 103), (nar .char 101), (nar .char 32), (nar .char (own_ch p2)), (nar .char (own_ch p3)), (nar .char 32), (nar .char 111), (nar .char 102), (nar .char 32), (nar .char 103), (nar .char 108), (nar .char 111), (nar .char 98), (nar .char 97), (nar .char 108), (nar .char 32), (nar .char 116), (nar .char 114), (nar .char 97), (nar .char 110), (nar .char 115), (nar .char 97), (nar .char 99), (nar .char 116), (nar .char 105), (nar .char 111), (nar .char 110), (nar .char 32), (nar .char (own_ch p4)), (nar .char (own_ch p5))] : List Int32)) (bs := (([(nar .char 114), (nar .char 101), (nar .char 108), (nar .char 105), (nar .char 97), (nar .char 98), (nar .char 108), (nar .char 101), (nar .char 32), (nar .char 109), (nar .char 101), (nar .char 115), (nar .char 115), (nar .char 97), (nar .char 103), (nar .char 101), (nar .char 32), (nar .char (own_ch p2)), (nar .char (own_ch p3)), (nar .char 32), (nar .char 111), (nar .char 102), (nar .char 32), (nar .char 103), (nar .char 108), (nar .char 111), (nar .char 98), (nar .char 97), (nar .char 108), (nar .char 32), (nar .char 116), (nar .char 114), (nar .char 97), (nar .char 110), (nar .char 115), (nar .char 97), (nar .char 99), (nar .char 116), (nar .char 105), (nar .char 111), (nar .char 110), (nar .char 32), (nar .char (own_ch p4)), (nar .char (own_ch p5))] : List Int32)).map (fun c => c.toInt8.toInt32)) (n := 44) g_b100 (Nat.le_trans zk630 E100.1) A100 F_value_b100 F_coder_b100 (V99.ext E100) (ck630_0.ext E100) hzc rfl rfl (by decide) (by decide) hp_b100 rfl (by decide) (by decide)) (g := (mkF m 636 #[.val (.int p1), .val (.int p2), .val (.int p3), .val (.int p4), .val (.int p5), .val (.int 1), .val (.int (own_ch p2)), .val (.int (own_ch p3)), .val (.int (own_ch p4)), .val (.int (own_ch p5)), .val (.ref b1), .val (.ref b6), .val (.ref b11), .unset, .unset, .unset] [(.ref b11), (.ref b100), (.ref b100)])) rfl (by rw [hml]; rfl) (Steps.refl _) (a := b100) (argsL := [(.ref b11)]) (rest := [(.ref b100)]) (lenOf pd_27 rfl) rfl (by show 2 * 0 + _ ≤ _; exact Nat.le_of_eq rfl) (hb hby at_636) (fun _ _ => ⟨rfl, e100, (by decide : 4 + 1 ≤ _), (by decide : 52 + 44 ≤ _)⟩)
  dsimp only [Pt.U, Pt.locs, Pt.cells, Pt.slots] at X101 l101 y101 z101 st101 hQ101
  subst l101 y101 z101
  obtain ⟨rfl, N101q, K101, EA101, FC101, t101, kb101, g_t101, sq_t101, tn101, FV101, AV101⟩ := hQ101
  have N101 := Fr.app Nk630 N101q
  have CH101 := CHr.trans CH100 (CHr.keep K101 (sfS (own_safe_null hZ0.alike A100 F_value_b100) sf0) CH100.1)
  have sz_t101 : h0.size ≤ t101 := Nat.le_trans Q100.1 sq_t101
  have Q101 : Keep h0 T101.heap [] := Q100.trans K101 (allS (Or.inr sz_b100) all0)
  obtain ⟨T102, h102, X102, e102, E102, A102, D102, -, st102⟩ := newO X101 hx hZ0 hown0 (own_t hw 30 rfl) (own_t hw 31 rfl) (own_t hw 32 rfl) rfl (g := (mkF m 641 #[.val (.int p1), .val (.int p2), .val (.int p3), .val (.int p4), .val (.int p5), .val (.int 1), .val (.int (own_ch p2)), .val (.int (own_ch p3)), .val (.int (own_ch p4)), .val (.int (own_ch p5)), .val (.ref b1), .val (.ref b6), .val (.ref b11), .val (.ref b100), .unset, .unset] [])) rfl (hb hby at_641) (by decide) (by decide)
  obtain ⟨b102, gg102⟩ : ∃ z, z = T101.heap.size := ⟨_, rfl⟩
  rw [← gg102] at A102 D102 st102
  have CH102 := CHr.trans CH101 (CHr.ext E102 CH101.1)
  have g_b102 : n0 ≤ b102 := Nat.le_trans (Nat.le_trans (Nat.le_trans zk630 E100.1) K101.1) (Nat.le_of_eq gg102.symm)
  have sz_b102 : h0.size ≤ b102 := Nat.le_trans Q101.1 (Nat.le_of_eq gg102.symm)
  have Q102 : Keep h0 h102 [] := Q101.ext E102
  have F_id_b102 : Fld Z h102 b102 "com/example/gentle_commit/gentlecommit/initiator/Message" "id" "Ljava/lang/String;" .null := D102 (Or.inr (own_t hw 95 rfl)) (ty := (.object "java/lang/String")) (by decide)
  have F_gid_b102 : Fld Z h102 b102 "com/example/gentle_commit/gentlecommit/initiator/Message" "gid" "Ljava/lang/String;" .null := D102 (Or.inr (own_t hw 97 rfl)) (ty := (.object "java/lang/String")) (by decide)
  have F_reliable_b102 : Fld Z h102 b102 "com/example/gentle_commit/gentlecommit/initiator/Message" "reliable" "Z" (.int 0) := D102 (Or.inr (own_t hw 99 rfl)) (ty := .boolean) (by decide)
  have F_exchange_b102 : Fld Z h102 b102 "com/example/gentle_commit/gentlecommit/initiator/Message" "exchange" "Ljava/lang/String;" .null := D102 (Or.inr (own_t hw 101 rfl)) (ty := (.object "java/lang/String")) (by decide)
  have F_routingKey_b102 : Fld Z h102 b102 "com/example/gentle_commit/gentlecommit/initiator/Message" "routingKey" "Ljava/lang/String;" .null := D102 (Or.inr (own_t hw 103 rfl)) (ty := (.object "java/lang/String")) (by decide)
  have F_body_b102 : Fld Z h102 b102 "com/example/gentle_commit/gentlecommit/initiator/Message" "body" "[B" .null := D102 (Or.inr (own_t hw 105 rfl)) (ty := (.array .byte)) (by decide)
  obtain ⟨T103, h103, X103, e103, E103, A103, D103, -, st103⟩ := newO X102 hx hZ0 hown0 (own_t hw 1 rfl) (own_t hw 2 rfl) (own_t hw 3 rfl) e102 (g := (mkF m 645 #[.val (.int p1), .val (.int p2), .val (.int p3), .val (.int p4), .val (.int p5), .val (.int 1), .val (.int (own_ch p2)), .val (.int (own_ch p3)), .val (.int (own_ch p4)), .val (.int (own_ch p5)), .val (.ref b1), .val (.ref b6), .val (.ref b11), .val (.ref b100), .unset, .unset] [(.ref b102), (.ref b102)])) rfl (hb hby at_645) (by decide) (by decide)
  obtain ⟨b103, gg103⟩ : ∃ z, z = h102.size := ⟨_, rfl⟩
  rw [← gg103] at A103 D103 st103
  have CH103 := CHr.trans CH102 (CHr.ext E103 CH102.1)
  have g_b103 : n0 ≤ b103 := Nat.le_trans (Nat.le_trans (Nat.le_trans (Nat.le_trans zk630 E100.1) K101.1) E102.1) (Nat.le_of_eq gg103.symm)
  have sz_b103 : h0.size ≤ b103 := Nat.le_trans Q102.1 (Nat.le_of_eq gg103.symm)
  have Q103 : Keep h0 h103 [] := Q102.ext E103
  have F_coder_b103 : Fld Z h103 b103 "java/lang/String" "coder" "B" (.int 0) := D103 (Or.inr (own_t hw 27 rfl)) (ty := .byte) (by decide)
  have F_value_b103 : Fld Z h103 b103 "java/lang/String" "value" "[B" .null := D103 (Or.inr (own_t hw 29 rfl)) (ty := (.array .byte)) (by decide)
  have hp_b103 : ∀ c ∈ ([(nar .char (own_ch p2)), (nar .char (own_ch p3))] : List Int32), ¬ c < 0 ∧ ¬ (255 : Int32) < c := (own_cons (own_ch_rng _) (own_cons (own_ch_rng _) own_nil0))
  have nq3 : b1 ≠ b100 := (Nat.ne_of_lt (Nat.lt_of_lt_of_le ck630_7.lt (Nat.le_of_eq gg100.symm)))
  obtain ⟨_, _, ⟨T104, LL104, kk104, nn104⟩, -, X104, ⟨Lc104, hQ104, l104, y104, z104⟩, st104⟩ := X103.specialBack hx (y := (⟨"java/lang/String", "<init>", "([C)V"⟩ : MethodName)) rfl hown0 (mvT hZ0 (own_t hw 4 rfl)) (mvT hZ0 (own_t hw 5 rfl)) (mvT hZ0 (own_t hw 6 rfl)) (by decide) (StrChars.Road.backV (W := 3) hZ0 (own_hws Z a0 hw) (kI := 4) (own_t hw 2 rfl) (cs := ([(nar .char (own_ch p2)), (nar .char (own_ch p3))] : List Int32)) (bs := (([(nar .char (own_ch p2)), (nar .char (own_ch p3))] : List Int32)).map (fun c => c.toInt8.toInt32)) (n := 2) g_b103 (Nat.le_trans (Nat.le_trans (Nat.le_trans (Nat.le_trans zk630 E100.1) K101.1) E102.1) E103.1) A103 F_value_b103 F_coder_b103 ((((ck630_7.ext E100).keep K101 (ninS nq3 nin0)).ext E102).ext E103) (((own_sta_keep1 (ck630_0.ext E100) K101 A100).ext E102).ext E103) hzc rfl rfl (by decide) (by decide) hp_b103 rfl (by decide) (by decide)) (g := (mkF m 651 #[.val (.int p1), .val (.int p2), .val (.int p3), .val (.int p4), .val (.int p5), .val (.int 1), .val (.int (own_ch p2)), .val (.int (own_ch p3)), .val (.int (own_ch p4)), .val (.int (own_ch p5)), .val (.ref b1), .val (.ref b6), .val (.ref b11), .val (.ref b100), .unset, .unset] [(.ref b1), (.ref b103), (.ref b103), (.ref b102), (.ref b102)])) rfl (by rw [hml]; rfl) (Steps.refl _) (a := b103) (argsL := [(.ref b1)]) (rest := [(.ref b103), (.ref b102), (.ref b102)]) (lenOf pd_27 rfl) rfl (by show 2 * 0 + _ ≤ _; exact Nat.le_of_eq rfl) (hb hby at_651) (fun _ _ => ⟨rfl, e103, (by decide : 7 + 1 ≤ _), (by decide : 106 + 2 ≤ _)⟩)
  dsimp only [Pt.U, Pt.locs, Pt.cells, Pt.slots] at X104 l104 y104 z104 st104 hQ104
  subst l104 y104 z104
  obtain ⟨rfl, N104q, K104, EA104, FC104, t104, kb104, g_t104, sq_t104, tn104, FV104, AV104⟩ := hQ104
  have N104 := Fr.app N101 N104q
  have CH104 := CHr.trans CH103 (CHr.keep K104 (sfS (own_safe_null hZ0.alike A103 F_value_b103) sf0) CH103.1)
  have sz_t104 : h0.size ≤ t104 := Nat.le_trans Q103.1 sq_t104
  have Q104 : Keep h0 T104.heap [] := Q103.trans K104 (allS (Or.inr sz_b103) all0)
  have AX_b103 : Arv Z T104.heap t104 kb104 .byte (2 : Int32) [(.int (own_b p2)), (.int (own_b p3))] (.int 0) := AV104
  obtain ⟨T105, h105, X105, e105, E105, A105, D105, -, st105⟩ := newO X104 hx hZ0 hown0 (own_t hw 1 rfl) (own_t hw 2 rfl) (own_t hw 3 rfl) rfl (g := (mkF m 654 #[.val (.int p1), .val (.int p2), .val (.int p3), .val (.int p4), .val (.int p5), .val (.int 1), .val (.int (own_ch p2)), .val (.int (own_ch p3)), .val (.int (own_ch p4)), .val (.int (own_ch p5)), .val (.ref b1), .val (.ref b6), .val (.ref b11), .val (.ref b100), .unset, .unset] [(.ref b103), (.ref b102), (.ref b102)])) rfl (hb hby at_654) (by decide) (by decide)
  obtain ⟨b105, gg105⟩ : ∃ z, z = T104.heap.size := ⟨_, rfl⟩
  rw [← gg105] at A105 D105 st105
  have CH105 := CHr.trans CH104 (CHr.ext E105 CH104.1)
  have g_b105 : n0 ≤ b105 := Nat.le_trans (Nat.le_trans (Nat.le_trans (Nat.le_trans (Nat.le_trans (Nat.le_trans zk630 E100.1) K101.1) E102.1) E103.1) K104.1) (Nat.le_of_eq gg105.symm)
  have sz_b105 : h0.size ≤ b105 := Nat.le_trans Q104.1 (Nat.le_of_eq gg105.symm)
  have Q105 : Keep h0 h105 [] := Q104.ext E105
  have F_coder_b105 : Fld Z h105 b105 "java/lang/String" "coder" "B" (.int 0) := D105 (Or.inr (own_t hw 27 rfl)) (ty := .byte) (by decide)
  have F_value_b105 : Fld Z h105 b105 "java/lang/String" "value" "[B" .null := D105 (Or.inr (own_t hw 29 rfl)) (ty := (.array .byte)) (by decide)
  have hp_b105 : ∀ c ∈ ([(nar .char (own_ch p4)), (nar .char (own_ch p5))] : List Int32), ¬ c < 0 ∧ ¬ (255 : Int32) < c := (own_cons (own_ch_rng _) (own_cons (own_ch_rng _) own_nil0))
  have nq4 : b6 ≠ b100 := (Nat.ne_of_lt (Nat.lt_of_lt_of_le ck630_8.lt (Nat.le_of_eq gg100.symm)))
  have nq5 : b6 ≠ b103 := (Nat.ne_of_lt (Nat.lt_of_lt_of_le (((ck630_8.ext E100).keep K101 (ninS nq4 nin0)).ext E102).lt (Nat.le_of_eq gg103.symm)))
  obtain ⟨_, _, ⟨T106, LL106, kk106, nn106⟩, -, X106, ⟨Lc106, hQ106, l106, y106, z106⟩, st106⟩ := X105.specialBack hx (y := (⟨"java/lang/String", "<init>", "([C)V"⟩ : MethodName)) rfl hown0 (mvT hZ0 (own_t hw 4 rfl)) (mvT hZ0 (own_t hw 5 rfl)) (mvT hZ0 (own_t hw 6 rfl)) (by decide) (StrChars.Road.backV (W := 4) hZ0 (own_hws Z a0 hw) (kI := 4) (own_t hw 2 rfl) (cs := ([(nar .char (own_ch p4)), (nar .char (own_ch p5))] : List Int32)) (bs := (([(nar .char (own_ch p4)), (nar .char (own_ch p5))] : List Int32)).map (fun c => c.toInt8.toInt32)) (n := 2) g_b105 (Nat.le_trans (Nat.le_trans (Nat.le_trans (Nat.le_trans (Nat.le_trans (Nat.le_trans zk630 E100.1) K101.1) E102.1) E103.1) K104.1) E105.1) A105 F_value_b105 F_coder_b105 ((((((ck630_8.ext E100).keep K101 (ninS nq4 nin0)).ext E102).ext E103).keep K104 (ninS nq5 nin0)).ext E105) ((own_sta_keep1 (((own_sta_keep1 (ck630_0.ext E100) K101 A100).ext E102).ext E103) K104 A103).ext E105) hzc rfl rfl (by decide) (by decide) hp_b105 rfl (by decide) (by decide)) (g := (mkF m 660 #[.val (.int p1), .val (.int p2), .val (.int p3), .val (.int p4), .val (.int p5), .val (.int 1), .val (.int (own_ch p2)), .val (.int (own_ch p3)), .val (.int (own_ch p4)), .val (.int (own_ch p5)), .val (.ref b1), .val (.ref b6), .val (.ref b11), .val (.ref b100), .unset, .unset] [(.ref b6), (.ref b105), (.ref b105), (.ref b103), (.ref b102), (.ref b102)])) rfl (by rw [hml]; rfl) (Steps.refl _) (a := b105) (argsL := [(.ref b6)]) (rest := [(.ref b105), (.ref b103), (.ref b102), (.ref b102)]) (lenOf pd_27 rfl) rfl (by show 2 * 0 + _ ≤ _; exact Nat.le_of_eq rfl) (hb hby at_660) (fun _ _ => ⟨rfl, e105, (by decide : 9 + 1 ≤ _), (by decide : 112 + 2 ≤ _)⟩)
  dsimp only [Pt.U, Pt.locs, Pt.cells, Pt.slots] at X106 l106 y106 z106 st106 hQ106
  subst l106 y106 z106
  obtain ⟨rfl, N106q, K106, EA106, FC106, t106, kb106, g_t106, sq_t106, tn106, FV106, AV106⟩ := hQ106
  have N106 := Fr.app N104 N106q
  have CH106 := CHr.trans CH105 (CHr.keep K106 (sfS (own_safe_null hZ0.alike A105 F_value_b105) sf0) CH105.1)
  have sz_t106 : h0.size ≤ t106 := Nat.le_trans Q105.1 sq_t106
  have Q106 : Keep h0 T106.heap [] := Q105.trans K106 (allS (Or.inr sz_b105) all0)
  have AX_b105 : Arv Z T106.heap t106 kb106 .byte (2 : Int32) [(.int (own_b p4)), (.int (own_b p5))] (.int 0) := AV106
  obtain ⟨b107, T107, h107, k107, t107, c107, X107, e107, E107, hS107, hk107, hZ107, hown107, EA107, FC107, FV107, AV107, -, -, C107, -, SN107, st107⟩ := ldcCH X106 hx hZ0 hown0 (own_t hw 33 rfl) (own_wS Z a0 hw) rfl hS0 (Nat.le_trans (Nat.le_trans (Nat.le_trans (Nat.le_trans (Nat.le_trans (Nat.le_trans (Nat.le_trans hkk630 E100.1) K101.1) E102.1) E103.1) K104.1) E105.1) K106.1) (own_EW Z a0 hw) (List.mem_of_getElem? (i := 4) rfl) CH106.1 (vs := []) (z := (0 : Int32)) (by decide) (by decide) rfl (g := (mkF m 665 #[.val (.int p1), .val (.int p2), .val (.int p3), .val (.int p4), .val (.int p5), .val (.int 1), .val (.int (own_ch p2)), .val (.int (own_ch p3)), .val (.int (own_ch p4)), .val (.int (own_ch p5)), .val (.ref b1), .val (.ref b6), .val (.ref b11), .val (.ref b100), .unset, .unset] [(.int 1), (.ref b105), (.ref b103), (.ref b102), (.ref b102)])) rfl (hb hby at_665) (n := 0) (by decide) (by decide) (by decide) (by decide)
  have CH107 := CHr.trans CH106 (C107)
  have Q107 : Keep h0 h107 [] := Q106.ext E107
  obtain ⟨b108, T108, h108, k108, t108, c108, X108, e108, E108, hS108, hk108, hZ108, hown108, EA108, FC108, FV108, AV108, -, -, C108, -, SN108, st108⟩ := ldcCH X107 hx hZ107 hown107 (own_t hw 33 rfl) (own_wS Z a0 hw) e107 hS107 hk107 (own_EW Z a0 hw) (List.mem_of_getElem? (i := 4) rfl) CH107.1 (vs := []) (z := (0 : Int32)) (by decide) (by decide) rfl (g := (mkF m 667 #[.val (.int p1), .val (.int p2), .val (.int p3), .val (.int p4), .val (.int p5), .val (.int 1), .val (.int (own_ch p2)), .val (.int (own_ch p3)), .val (.int (own_ch p4)), .val (.int (own_ch p5)), .val (.ref b1), .val (.ref b6), .val (.ref b11), .val (.ref b100), .unset, .unset] [(.ref b107), (.int 1), (.ref b105), (.ref b103), (.ref b102), (.ref b102)])) rfl (hb hby at_667) (n := 0) (by decide) (by decide) (by decide) (by decide)
  have CH108 := CHr.trans CH107 (C108)
  have Q108 : Keep h0 h108 [] := Q107.ext E108
  obtain ⟨T109, h109, k109, X109, e109, E109, A109, EX109, st109⟩ := newPE X108 hx hZ108 (own_t hw 19 rfl) e108 (g := (mkF m 670 #[.val (.int p1), .val (.int p2), .val (.int p3), .val (.int p4), .val (.int p5), .val (.int 1), .val (.int (own_ch p2)), .val (.int (own_ch p3)), .val (.int (own_ch p4)), .val (.int (own_ch p5)), .val (.ref b1), .val (.ref b6), .val (.ref b11), .val (.ref b100), .unset, .unset] [(.int 0), (.ref b108), (.ref b107), (.int 1), (.ref b105), (.ref b103), (.ref b102), (.ref b102)])) rfl (hb hby at_670) rfl (by decide) (cap := 0) (by decide) (by decide) (by decide) (by decide) (ad := "[B") (by decide)
  obtain ⟨b109, gg109⟩ : ∃ z, z = h108.size := ⟨_, rfl⟩
  rw [← gg109] at A109 EX109 st109
  have Sb109_109 := Safe.ext E109 CH108.1 (Safe.new (vm := _) (Nat.le_of_eq gg109.symm))
  have CH109 := CHr.trans CH108 (CHr.ext E109 CH108.1)
  have g_b109 : n0 ≤ b109 := Nat.le_trans (Nat.le_trans (Nat.le_trans (Nat.le_trans (Nat.le_trans (Nat.le_trans (Nat.le_trans (Nat.le_trans (Nat.le_trans (Nat.le_trans zk630 E100.1) K101.1) E102.1) E103.1) K104.1) E105.1) K106.1) E107.1) E108.1) (Nat.le_of_eq gg109.symm)
  have sz_b109 : h0.size ≤ b109 := Nat.le_trans Q108.1 (Nat.le_of_eq gg109.symm)
  have Q109 : Keep h0 h109 [] := Q108.ext E109
  have V_b109 : Arv Z h109 b109 k109 .byte (0 : Int32) [] (.int 0) := (Arv.new A109 (by decide)).pad (pad_rep [] (.int 0) 0)
  have nq6 : b102 ≠ b103 := (Nat.ne_of_lt (Nat.lt_of_lt_of_le A102.lt (Nat.le_of_eq gg103.symm)))
  have nq7 : b102 ≠ b105 := (Nat.ne_of_lt (Nat.lt_of_lt_of_le ((A102.ext E103).keep K104).lt (Nat.le_of_eq gg105.symm)))
  obtain ⟨_, _, ⟨T110, LL110, kk110, nn110⟩, -, X110r, hS110r, hg110r, ⟨Lc110, hQ110, l110, y110, z110, C110⟩, st110⟩ := X109.specialBackS hx (y := (⟨"com/example/gentle_commit/gentlecommit/initiator/Message", "<init>", "(Ljava/lang/String;Ljava/lang/String;ZLjava/lang/String;Ljava/lang/String;[B)V"⟩ : MethodName)) rfl hown108 (mvT hZ108 (own_t hw 36 rfl)) (mvT hZ108 (own_t hw 37 rfl)) (mvT hZ108 (own_t hw 38 rfl)) (by decide) (backOfSH (W := 1) (rmMI l Z a0 hw [] b102 b103 b105 (1 : Int32) b107 b108 b109 t107 c107 t108 c108 k109 cu zc h109 n0 (Nat.le_trans (Nat.le_trans (Nat.le_trans (Nat.le_trans (Nat.le_trans (Nat.le_trans (Nat.le_trans (Nat.le_trans (Nat.le_trans (Nat.le_trans zk630 E100.1) K101.1) E102.1) E103.1) K104.1) E105.1) K106.1) E107.1) E108.1) E109.1) (((((((A102.ext E103).keep K104).ext E105).keep K106).ext E107).ext E108).ext E109) g_b102 (((((((F_id_b102.ext E103).keep K104 (ninS nq6 nin0)).ext E105).keep K106 (ninS nq7 nin0)).ext E107).ext E108).ext E109) (((((((F_gid_b102.ext E103).keep K104 (ninS nq6 nin0)).ext E105).keep K106 (ninS nq7 nin0)).ext E107).ext E108).ext E109) (((((((F_reliable_b102.ext E103).keep K104 (ninS nq6 nin0)).ext E105).keep K106 (ninS nq7 nin0)).ext E107).ext E108).ext E109) (((((((F_exchange_b102.ext E103).keep K104 (ninS nq6 nin0)).ext E105).keep K106 (ninS nq7 nin0)).ext E107).ext E108).ext E109) (((((((F_routingKey_b102.ext E103).keep K104 (ninS nq6 nin0)).ext E105).keep K106 (ninS nq7 nin0)).ext E107).ext E108).ext E109) (((((((F_body_b102.ext E103).keep K104 (ninS nq6 nin0)).ext E105).keep K106 (ninS nq7 nin0)).ext E107).ext E108).ext E109) ((EA107.ext E108).ext E109) ((FV107.ext E108).ext E109) ((FC107.ext E108).ext E109) ((AV107.ext E108).ext E109) (((own_bkexa hZ107.alike AV107 SN107).ext E108).ext E109) (EA108.ext E109) (FV108.ext E109) (FC108.ext E109) (AV108.ext E109) ((own_bkexa hZ108.alike AV108 SN108).ext E109) V_b109 EX109 ((((own_sta_keep1 ((own_sta_keep1 (((own_sta_keep1 (ck630_2.ext E100) K101 A100).ext E102).ext E103) K104 A103).ext E105) K106 A105).ext E107).ext E108).ext E109) ((((own_sta_keep1 ((own_sta_keep1 (((own_sta_keep1 (ck630_3.ext E100) K101 A100).ext E102).ext E103) K104 A103).ext E105) K106 A105).ext E107).ext E108).ext E109) ((((own_sta_keep1 ((own_sta_keep1 (((own_sta_keep1 (ck630_0.ext E100) K101 A100).ext E102).ext E103) K104 A103).ext E105) K106 A105).ext E107).ext E108).ext E109) (hzc) (by decide)) hZ108 (own_t hw 38 rfl) (own_t hw 32 rfl) (by decide) (by decide) (own_EW Z a0 hw) CH109.1) (g := (mkF m 672 #[.val (.int p1), .val (.int p2), .val (.int p3), .val (.int p4), .val (.int p5), .val (.int 1), .val (.int (own_ch p2)), .val (.int (own_ch p3)), .val (.int (own_ch p4)), .val (.int (own_ch p5)), .val (.ref b1), .val (.ref b6), .val (.ref b11), .val (.ref b100), .unset, .unset] [(.ref b109), (.ref b108), (.ref b107), (.int 1), (.ref b105), (.ref b103), (.ref b102), (.ref b102)])) rfl (by rw [hml]; rfl) (Steps.refl _) (a := b102) (argsL := [(.ref b103), (.ref b105), (.int 1), (.ref b107), (.ref b108), (.ref b109)]) (rest := [(.ref b102)]) (lenOf pd_28 rfl) rfl (by show 2 * 0 + _ ≤ _; exact Nat.le_of_eq rfl) (hb hby at_672) (fun _ _ => ⟨rfl, e109, (by decide : 15 + 11 ≤ _), (by decide : 122 + 112 ≤ _)⟩)
  dsimp only [Pt.U, Pt.locs, Pt.cells, Pt.slots] at X110r hS110r hg110r l110 y110 z110 st110 hQ110 C110
  subst l110 y110 z110
  obtain ⟨X110, hS110, hZ110, hown110⟩ := rebS hS108 (by rw [e109]; exact (Nat.le_trans hk108 E109.1)) X110r hS110r hg110r hZ108 hown108
  obtain ⟨rfl, N110q, K110, p110_0, p110_1, p110_2⟩ := hQ110
  have N110 := Fr.app N106 N110q
  have Sb109_110 := CHr.safe C110 EX109.lt Sb109_109
  have CH110 := CHr.trans CH109 (C110)
  have Q110 : Keep h0 T110.heap [] := Q109.trans K110 (allS (Or.inr sz_b102) all0)
  have nq8 : b103 ≠ b105 := (Nat.ne_of_lt (Nat.lt_of_lt_of_le EA104.lt (Nat.le_of_eq gg105.symm)))
  have nq9 : t104 ≠ b105 := (Nat.ne_of_lt (Nat.lt_of_lt_of_le AX_b103.lt (Nat.le_of_eq gg105.symm)))
  have nq10 : t104 ≠ b102 := (Ne.symm (Nat.ne_of_lt (Nat.lt_of_lt_of_le (A102.ext E103).lt sq_t104)))
  have nq11 : t106 ≠ b102 := (Ne.symm (Nat.ne_of_lt (Nat.lt_of_lt_of_le (((A102.ext E103).keep K104).ext E105).lt sq_t106)))
  obtain ⟨cq111, kq111, q111a, q111b, q111c⟩ := isOf hZ110 rfl ((((((((A102.ext E103).keep K104).ext E105).keep K106).ext E107).ext E108).ext E109).keep K110)
  obtain ⟨_, _, ⟨T111, LL111, kk111, nn111⟩, -, X111r, hS111r, hg111r, ⟨Lc111, hQ111, l111, y111, z111, C111⟩, st111⟩ := X110.virtualBackS hx (y := (⟨"com/example/gentle_commit/gentlecommit/initiator/Message", "describe", "()Ljava/lang/String;"⟩ : MethodName)) (z := (⟨"com/example/gentle_commit/gentlecommit/initiator/Message", "describe", "()Ljava/lang/String;"⟩ : MethodName)) hown110 (mvT hZ110 (own_t hw 106 rfl)) (mvT hZ110 (own_t hw 107 rfl)) (notFace_of_selects (args := #[]) (mvT hZ110 (own_t hw 109 rfl))) (mvT hZ110 (own_t hw 109 rfl)) (mvT hZ110 (own_t hw 108 rfl)) (by decide) (backOfSH (W := 0) (rmD1 l Z a0 hw [] b102 b103 t104 kb104 b105 t106 kb106 (own_b p2) (own_b p3) (own_b p4) (own_b p5) zc T110.heap n0 (Nat.le_trans (Nat.le_trans (Nat.le_trans (Nat.le_trans (Nat.le_trans (Nat.le_trans (Nat.le_trans (Nat.le_trans (Nat.le_trans (Nat.le_trans (Nat.le_trans zk630 E100.1) K101.1) E102.1) E103.1) K104.1) E105.1) K106.1) E107.1) E108.1) E109.1) K110.1) p110_0 p110_1 p110_2 ((((((EA104.ext E105).keep K106).ext E107).ext E108).ext E109).keep K110) ((((((FV104.ext E105).keep K106 (ninS nq8 nin0)).ext E107).ext E108).ext E109).keep K110 (ninS nq6.symm nin0)) ((((((FC104.ext E105).keep K106 (ninS nq8 nin0)).ext E107).ext E108).ext E109).keep K110 (ninS nq6.symm nin0)) ((((((AX_b103.ext E105).keep K106 (ninS nq9 nin0)).ext E107).ext E108).ext E109).keep K110 (ninS nq10 nin0)) ((((EA106.ext E107).ext E108).ext E109).keep K110) ((((FV106.ext E107).ext E108).ext E109).keep K110 (ninS nq7.symm nin0)) ((((FC106.ext E107).ext E108).ext E109).keep K110 (ninS nq7.symm nin0)) ((((AX_b105.ext E107).ext E108).ext E109).keep K110 (ninS nq11 nin0)) (own_sta_keep1 ((((own_sta_keep1 ((own_sta_keep1 (((own_sta_keep1 (ck630_0.ext E100) K101 A100).ext E102).ext E103) K104 A103).ext E105) K106 A105).ext E107).ext E108).ext E109) K110 (((((((A102.ext E103).keep K104).ext E105).keep K106).ext E107).ext E108).ext E109)) (hzc)) hZ110 (own_t hw 110 rfl) (own_t hw 32 rfl) (by decide) (by decide) (own_EW Z a0 hw) CH110.1) q111a q111c (g := (mkF m 679 #[.val (.int p1), .val (.int p2), .val (.int p3), .val (.int p4), .val (.int p5), .val (.int 1), .val (.int (own_ch p2)), .val (.int (own_ch p3)), .val (.int (own_ch p4)), .val (.int (own_ch p5)), .val (.ref b1), .val (.ref b6), .val (.ref b11), .val (.ref b100), .val (.ref b102), .unset] [(.ref b102)])) rfl (by rw [hml]; rfl) (Steps.refl _) (argsL := []) (rest := []) (lenOf pd_26 rfl) rfl (by show 2 * 0 + _ ≤ _; exact Nat.le_of_eq rfl) (hb hby at_679) (fun _ _ => ⟨rfl, rfl, (by decide : 26 + 12 ≤ _), (by decide : 234 + 344 ≤ _)⟩)
  dsimp only [Pt.U, Pt.locs, Pt.cells, Pt.slots] at X111r hS111r hg111r l111 y111 z111 st111 hQ111 C111
  subst l111 y111 z111
  obtain ⟨X111, hS111, hZ111, hown111⟩ := rebS hS110 (Nat.le_refl _) X111r hS111r hg111r hZ110 hown110
  obtain ⟨b_111, t_111, kt_111, rfl, N111q, K111, g_b_111, sq_b_111, g_t_111, sq_t_111, p111_0, p111_1, p111_2, p111_3⟩ := hQ111
  have N111 := Fr.app N110 N111q
  have Sb109_111 := CHr.safe C111 (EX109.keep K110).lt Sb109_110
  have CH111 := CHr.trans CH110 (C111)
  have sz_b_111 : h0.size ≤ b_111 := Nat.le_trans Q110.1 sq_b_111
  have sz_t_111 : h0.size ≤ t_111 := Nat.le_trans Q110.1 sq_t_111
  have Q111 : Keep h0 T111.heap [] := Q110.trans K111 all0
  have VD : Arv Z T111.heap t_111 kt_111 .byte (44 : Int32) ((([(nar .char 114), (nar .char 101), (nar .char 108), (nar .char 105), (nar .char 97), (nar .char 98), (nar .char 108), (nar .char 101), (nar .char 32), (nar .char 109), (nar .char 101), (nar .char 115), (nar .char 115), (nar .char 97), (nar .char 103), (nar .char 101), (nar .char 32), (nar .char (own_ch p2)), (nar .char (own_ch p3)), (nar .char 32), (nar .char 111), (nar .char 102), (nar .char 32), (nar .char 103), (nar .char 108), (nar .char 111), (nar .char 98), (nar .char 97), (nar .char 108), (nar .char 32), (nar .char 116), (nar .char 114), (nar .char 97), (nar .char 110), (nar .char 115), (nar .char 97), (nar .char 99), (nar .char 116), (nar .char 105), (nar .char 111), (nar .char 110), (nar .char 32), (nar .char (own_ch p4)), (nar .char (own_ch p5))] : List Int32).map (fun c => c.toInt8.toInt32)).map Value.int) (.int 0) := by rw [own_lst44]; exact p111_3
  have nq12 : b100 ≠ b103 := (Nat.ne_of_lt (Nat.lt_of_lt_of_le (EA101.ext E102).lt (Nat.le_of_eq gg103.symm)))
  have nq13 : b100 ≠ b105 := (Nat.ne_of_lt (Nat.lt_of_lt_of_le (((EA101.ext E102).ext E103).keep K104).lt (Nat.le_of_eq gg105.symm)))
  have nq14 : b100 ≠ b102 := (Nat.ne_of_lt (Nat.lt_of_lt_of_le EA101.lt (Nat.le_of_eq gg102.symm)))
  have nq15 : t101 ≠ b103 := (Nat.ne_of_lt (Nat.lt_of_lt_of_le (AV101.ext E102).lt (Nat.le_of_eq gg103.symm)))
  have nq16 : t101 ≠ b105 := (Nat.ne_of_lt (Nat.lt_of_lt_of_le (((AV101.ext E102).ext E103).keep K104 (ninS nq15 nin0)).lt (Nat.le_of_eq gg105.symm)))
  have nq17 : t101 ≠ b102 := (Nat.ne_of_lt (Nat.lt_of_lt_of_le AV101.lt (Nat.le_of_eq gg102.symm)))
  obtain ⟨cq112, kq112, q112a, q112b, q112c⟩ := isOf hZ111 rfl p111_0
  obtain ⟨_, _, ⟨T112, LL112, kk112, nn112⟩, -, X112, ⟨Lc112, hQ112, l112, y112, z112⟩, st112⟩ := X111.virtualBack hx (y := (⟨"java/lang/String", "equals", "(Ljava/lang/Object;)Z"⟩ : MethodName)) (z := (⟨"java/lang/String", "equals", "(Ljava/lang/Object;)Z"⟩ : MethodName)) hown111 (mvT hZ111 (own_t hw 236 rfl)) (mvT hZ111 (own_t hw 237 rfl)) (notFace_of_selects (args := #[]) (mvT hZ111 (own_t hw 239 rfl))) (mvT hZ111 (own_t hw 239 rfl)) (mvT hZ111 (own_t hw 238 rfl)) (by decide) (StrChars.Road.eqW (W := 0) hZ111 (own_hwq Z a0 hw) (kI := 4) (own_t hw 2 rfl) p111_0 p111_1 p111_2 VD (StrChars.Road.codOf (cs := (([(nar .char 114), (nar .char 101), (nar .char 108), (nar .char 105), (nar .char 97), (nar .char 98), (nar .char 108), (nar .char 101), (nar .char 32), (nar .char 109), (nar .char 101), (nar .char 115), (nar .char 115), (nar .char 97), (nar .char 103), (nar .char 101), (nar .char 32), (nar .char (own_ch p2)), (nar .char (own_ch p3)), (nar .char 32), (nar .char 111), (nar .char 102), (nar .char 32), (nar .char 103), (nar .char 108), (nar .char 111), (nar .char 98), (nar .char 97), (nar .char 108), (nar .char 32), (nar .char 116), (nar .char 114), (nar .char 97), (nar .char 110), (nar .char 115), (nar .char 97), (nar .char 99), (nar .char 116), (nar .char 105), (nar .char 111), (nar .char 110), (nar .char 32), (nar .char (own_ch p4)), (nar .char (own_ch p5))] : List Int32) : List Int32)) (n := 44) rfl (fun c hc => (hp_b100 c hc).2)) (own_up hp_b100) (Nat.le_of_ble_eq_true rfl) ((((((((((EA101.ext E102).ext E103).keep K104).ext E105).keep K106).ext E107).ext E108).ext E109).keep K110).keep K111) ((((((((((FV101.ext E102).ext E103).keep K104 (ninS nq12 nin0)).ext E105).keep K106 (ninS nq13 nin0)).ext E107).ext E108).ext E109).keep K110 (ninS nq14 nin0)).keep K111 nin0) ((((((((((FC101.ext E102).ext E103).keep K104 (ninS nq12 nin0)).ext E105).keep K106 (ninS nq13 nin0)).ext E107).ext E108).ext E109).keep K110 (ninS nq14 nin0)).keep K111 nin0) ((((((((((AV101.ext E102).ext E103).keep K104 (ninS nq15 nin0)).ext E105).keep K106 (ninS nq16 nin0)).ext E107).ext E108).ext E109).keep K110 (ninS nq17 nin0)).keep K111 nin0) (StrChars.Road.codOf (cs := (([(nar .char 114), (nar .char 101), (nar .char 108), (nar .char 105), (nar .char 97), (nar .char 98), (nar .char 108), (nar .char 101), (nar .char 32), (nar .char 109), (nar .char 101), (nar .char 115), (nar .char 115), (nar .char 97), (nar .char 103), (nar .char 101), (nar .char 32), (nar .char (own_ch p2)), (nar .char (own_ch p3)), (nar .char 32), (nar .char 111), (nar .char 102), (nar .char 32), (nar .char 103), (nar .char 108), (nar .char 111), (nar .char 98), (nar .char 97), (nar .char 108), (nar .char 32), (nar .char 116), (nar .char 114), (nar .char 97), (nar .char 110), (nar .char 115), (nar .char 97), (nar .char 99), (nar .char 116), (nar .char 105), (nar .char 111), (nar .char 110), (nar .char 32), (nar .char (own_ch p4)), (nar .char (own_ch p5))] : List Int32) : List Int32)) (n := 44) rfl (fun c hc => (hp_b100 c hc).2)) (own_up hp_b100) (Nat.le_of_ble_eq_true rfl) (own_sta_keep0 (own_sta_keep1 ((((own_sta_keep1 ((own_sta_keep1 (((own_sta_keep1 (ck630_0.ext E100) K101 A100).ext E102).ext E103) K104 A103).ext E105) K106 A105).ext E107).ext E108).ext E109) K110 (((((((A102.ext E103).keep K104).ext E105).keep K106).ext E107).ext E108).ext E109)) K111) hzc (by decide) (by decide)) q112a q112c (g := (mkF m 688 #[.val (.int p1), .val (.int p2), .val (.int p3), .val (.int p4), .val (.int p5), .val (.int 1), .val (.int (own_ch p2)), .val (.int (own_ch p3)), .val (.int (own_ch p4)), .val (.int (own_ch p5)), .val (.ref b1), .val (.ref b6), .val (.ref b11), .val (.ref b100), .val (.ref b102), .val (.ref b_111)] [(.ref b100), (.ref b_111)])) rfl (by rw [hml]; rfl) (Steps.refl _) (argsL := [(.ref b100)]) (rest := []) (lenOf pd_29 rfl) rfl (by show 2 * 0 + _ ≤ _; exact Nat.le_of_eq rfl) (hb hby at_688) (fun _ _ => ⟨rfl, rfl, (by decide : 38 + 0 ≤ _), (by decide : 578 + 0 ≤ _)⟩)
  dsimp only [Pt.U, Pt.locs, Pt.cells, Pt.slots] at X112 l112 y112 z112 st112 hQ112
  subst l112 y112 z112
  obtain ⟨hcase, rfl, e112⟩ := hQ112
  have hv112 : _ = some (Value.int (1 : Int32)) := hcase.elim (fun q => q.1) (fun q => absurd rfl q.2)
  subst hv112
  have N112 := Fr.app N111 (Fr.nil n0)
  obtain ⟨fs, hr, hrun, hended, hR⟩ := X112.leaveW hS111 (by rw [e112]; exact (Nat.le_refl _)) (v := some (.int 1)) (fun h => by rw [Bd.returns] at h; cases h)
  refine ⟨_, _, pre0 _ ?_, hrun, hended, _, _, rfl, ?_, hR.1, hR.2.1, hR.2.2.1, hR.2.2.2.mono (by decide) (by decide)⟩
  · show Steps p.tables e below (s₁.setTop (mkF m 0 #[.val (.int p1), .val (.int p2), .val (.int p3), .val (.int p4), .val (.int p5), .unset, .unset, .unset, .unset, .unset, .unset, .unset, .unset, .unset, .unset, .unset] [])) _
    refine XS.iloadN X0w.here hx rfl (hb hby at_0) rfl ?_
    refine XS.iconst X0w.here hx rfl (hb hby at_1) ?_
    refine XS.iand X0w.here hx rfl (hb hby at_2) rfl ?_
    show Steps p.tables e below (s₁.setTop (mkF m 3 #[.val (.int p1), .val (.int p2), .val (.int p3), .val (.int p4), .val (.int p5), .unset, .unset, .unset, .unset, .unset, .unset, .unset, .unset, .unset, .unset, .unset] [(.int (p1 &&& (1 : Int32)))])) _
    refine XS.ifNo X0w.here hx rfl (hb hby at_3) rfl ((if0 _ _).trans (feq hc3).1) ?_
    show Steps p.tables e below (s₁.setTop (mkF m 6 #[.val (.int p1), .val (.int p2), .val (.int p3), .val (.int p4), .val (.int p5), .unset, .unset, .unset, .unset, .unset, .unset, .unset, .unset, .unset, .unset, .unset] [])) _
    refine XS.iconst X0w.here hx rfl (hb hby at_6) ?_
    refine XS.goto X0w.here hx rfl (pc0 := 7) (pc' := 11) rfl (hb hby at_7) (by decide) (by decide) ?_
    show Steps p.tables e below (s₁.setTop (mkF m 11 #[.val (.int p1), .val (.int p2), .val (.int p3), .val (.int p4), .val (.int p5), .unset, .unset, .unset, .unset, .unset, .unset, .unset, .unset, .unset, .unset, .unset] [(.int 1)])) _
    refine XS.istore X0w.here hx rfl (hb hby at_11) rfl (l' := #[.val (.int p1), .val (.int p2), .val (.int p3), .val (.int p4), .val (.int p5), .val (.int 1), .unset, .unset, .unset, .unset, .unset, .unset, .unset, .unset, .unset, .unset]) rfl ?_
    show Steps p.tables e below (s₁.setTop (mkF m 13 #[.val (.int p1), .val (.int p2), .val (.int p3), .val (.int p4), .val (.int p5), .val (.int 1), .unset, .unset, .unset, .unset, .unset, .unset, .unset, .unset, .unset, .unset] [])) _
    refine XS.iloadN X0w.here hx rfl (hb hby at_13) rfl ?_
    refine XS.sipush X0w.here hx rfl (hb hby at_14) ?_
    refine XS.iand X0w.here hx rfl (hb hby at_17) rfl ?_
    show Steps p.tables e below (s₁.setTop (mkF m 18 #[.val (.int p1), .val (.int p2), .val (.int p3), .val (.int p4), .val (.int p5), .val (.int 1), .unset, .unset, .unset, .unset, .unset, .unset, .unset, .unset, .unset, .unset] [(.int (p2 &&& (255 : Int32)))])) _
    refine XS.i2c X0w.here hx rfl (hb hby at_18) rfl ?_
    show Steps p.tables e below (s₁.setTop (mkF m 19 #[.val (.int p1), .val (.int p2), .val (.int p3), .val (.int p4), .val (.int p5), .val (.int 1), .unset, .unset, .unset, .unset, .unset, .unset, .unset, .unset, .unset, .unset] [(.int (own_ch p2))])) _
    refine XS.istore X0w.here hx rfl (hb hby at_19) rfl (l' := #[.val (.int p1), .val (.int p2), .val (.int p3), .val (.int p4), .val (.int p5), .val (.int 1), .val (.int (own_ch p2)), .unset, .unset, .unset, .unset, .unset, .unset, .unset, .unset, .unset]) rfl ?_
    show Steps p.tables e below (s₁.setTop (mkF m 21 #[.val (.int p1), .val (.int p2), .val (.int p3), .val (.int p4), .val (.int p5), .val (.int 1), .val (.int (own_ch p2)), .unset, .unset, .unset, .unset, .unset, .unset, .unset, .unset, .unset] [])) _
    refine XS.iloadN X0w.here hx rfl (hb hby at_21) rfl ?_
    refine XS.sipush X0w.here hx rfl (hb hby at_22) ?_
    refine XS.iand X0w.here hx rfl (hb hby at_25) rfl ?_
    show Steps p.tables e below (s₁.setTop (mkF m 26 #[.val (.int p1), .val (.int p2), .val (.int p3), .val (.int p4), .val (.int p5), .val (.int 1), .val (.int (own_ch p2)), .unset, .unset, .unset, .unset, .unset, .unset, .unset, .unset, .unset] [(.int (p3 &&& (255 : Int32)))])) _
    refine XS.i2c X0w.here hx rfl (hb hby at_26) rfl ?_
    show Steps p.tables e below (s₁.setTop (mkF m 27 #[.val (.int p1), .val (.int p2), .val (.int p3), .val (.int p4), .val (.int p5), .val (.int 1), .val (.int (own_ch p2)), .unset, .unset, .unset, .unset, .unset, .unset, .unset, .unset, .unset] [(.int (own_ch p3))])) _
    refine XS.istore X0w.here hx rfl (hb hby at_27) rfl (l' := #[.val (.int p1), .val (.int p2), .val (.int p3), .val (.int p4), .val (.int p5), .val (.int 1), .val (.int (own_ch p2)), .val (.int (own_ch p3)), .unset, .unset, .unset, .unset, .unset, .unset, .unset, .unset]) rfl ?_
    show Steps p.tables e below (s₁.setTop (mkF m 29 #[.val (.int p1), .val (.int p2), .val (.int p3), .val (.int p4), .val (.int p5), .val (.int 1), .val (.int (own_ch p2)), .val (.int (own_ch p3)), .unset, .unset, .unset, .unset, .unset, .unset, .unset, .unset] [])) _
    refine XS.iloadN X0w.here hx rfl (hb hby at_29) rfl ?_
    refine XS.sipush X0w.here hx rfl (hb hby at_30) ?_
    refine XS.iand X0w.here hx rfl (hb hby at_33) rfl ?_
    show Steps p.tables e below (s₁.setTop (mkF m 34 #[.val (.int p1), .val (.int p2), .val (.int p3), .val (.int p4), .val (.int p5), .val (.int 1), .val (.int (own_ch p2)), .val (.int (own_ch p3)), .unset, .unset, .unset, .unset, .unset, .unset, .unset, .unset] [(.int (p4 &&& (255 : Int32)))])) _
    refine XS.i2c X0w.here hx rfl (hb hby at_34) rfl ?_
    show Steps p.tables e below (s₁.setTop (mkF m 35 #[.val (.int p1), .val (.int p2), .val (.int p3), .val (.int p4), .val (.int p5), .val (.int 1), .val (.int (own_ch p2)), .val (.int (own_ch p3)), .unset, .unset, .unset, .unset, .unset, .unset, .unset, .unset] [(.int (own_ch p4))])) _
    refine XS.istore X0w.here hx rfl (hb hby at_35) rfl (l' := #[.val (.int p1), .val (.int p2), .val (.int p3), .val (.int p4), .val (.int p5), .val (.int 1), .val (.int (own_ch p2)), .val (.int (own_ch p3)), .val (.int (own_ch p4)), .unset, .unset, .unset, .unset, .unset, .unset, .unset]) rfl ?_
    show Steps p.tables e below (s₁.setTop (mkF m 37 #[.val (.int p1), .val (.int p2), .val (.int p3), .val (.int p4), .val (.int p5), .val (.int 1), .val (.int (own_ch p2)), .val (.int (own_ch p3)), .val (.int (own_ch p4)), .unset, .unset, .unset, .unset, .unset, .unset, .unset] [])) _
    refine XS.iload X0w.here hx rfl (hb hby at_37) rfl ?_
    refine XS.sipush X0w.here hx rfl (hb hby at_39) ?_
    refine XS.iand X0w.here hx rfl (hb hby at_42) rfl ?_
    show Steps p.tables e below (s₁.setTop (mkF m 43 #[.val (.int p1), .val (.int p2), .val (.int p3), .val (.int p4), .val (.int p5), .val (.int 1), .val (.int (own_ch p2)), .val (.int (own_ch p3)), .val (.int (own_ch p4)), .unset, .unset, .unset, .unset, .unset, .unset, .unset] [(.int (p5 &&& (255 : Int32)))])) _
    refine XS.i2c X0w.here hx rfl (hb hby at_43) rfl ?_
    show Steps p.tables e below (s₁.setTop (mkF m 44 #[.val (.int p1), .val (.int p2), .val (.int p3), .val (.int p4), .val (.int p5), .val (.int 1), .val (.int (own_ch p2)), .val (.int (own_ch p3)), .val (.int (own_ch p4)), .unset, .unset, .unset, .unset, .unset, .unset, .unset] [(.int (own_ch p5))])) _
    refine XS.istore X0w.here hx rfl (hb hby at_44) rfl (l' := #[.val (.int p1), .val (.int p2), .val (.int p3), .val (.int p4), .val (.int p5), .val (.int 1), .val (.int (own_ch p2)), .val (.int (own_ch p3)), .val (.int (own_ch p4)), .val (.int (own_ch p5)), .unset, .unset, .unset, .unset, .unset, .unset]) rfl ?_
    show Steps p.tables e below (s₁.setTop (mkF m 46 #[.val (.int p1), .val (.int p2), .val (.int p3), .val (.int p4), .val (.int p5), .val (.int 1), .val (.int (own_ch p2)), .val (.int (own_ch p3)), .val (.int (own_ch p4)), .val (.int (own_ch p5)), .unset, .unset, .unset, .unset, .unset, .unset] [])) _
    refine XS.iconst X0w.here hx rfl (hb hby at_46) ?_
    refine st1 _ ?_
    show Steps p.tables e below (T1.setTop (mkF m 49 #[.val (.int p1), .val (.int p2), .val (.int p3), .val (.int p4), .val (.int p5), .val (.int 1), .val (.int (own_ch p2)), .val (.int (own_ch p3)), .val (.int (own_ch p4)), .val (.int (own_ch p5)), .unset, .unset, .unset, .unset, .unset, .unset] [(.ref b1)])) _
    refine XS.dup X1.here hx rfl (hb hby at_49) rfl rfl ?_
    refine XS.iconst X1.here hx rfl (hb hby at_50) ?_
    refine XS.iload X1.here hx rfl (hb hby at_51) rfl ?_
    refine st3 _ ?_
    show Steps p.tables e below (T3.setTop (mkF m 54 #[.val (.int p1), .val (.int p2), .val (.int p3), .val (.int p4), .val (.int p5), .val (.int 1), .val (.int (own_ch p2)), .val (.int (own_ch p3)), .val (.int (own_ch p4)), .val (.int (own_ch p5)), .unset, .unset, .unset, .unset, .unset, .unset] [(.ref b1)])) _
    refine XS.dup X3.here hx rfl (hb hby at_54) rfl rfl ?_
    refine XS.iconst X3.here hx rfl (hb hby at_55) ?_
    refine XS.iload X3.here hx rfl (hb hby at_56) rfl ?_
    refine st5 _ ?_
    show Steps p.tables e below (T5.setTop (mkF m 59 #[.val (.int p1), .val (.int p2), .val (.int p3), .val (.int p4), .val (.int p5), .val (.int 1), .val (.int (own_ch p2)), .val (.int (own_ch p3)), .val (.int (own_ch p4)), .val (.int (own_ch p5)), .unset, .unset, .unset, .unset, .unset, .unset] [(.ref b1)])) _
    refine XS.astore X5.here hx rfl (hb hby at_59) rfl rfl (l' := #[.val (.int p1), .val (.int p2), .val (.int p3), .val (.int p4), .val (.int p5), .val (.int 1), .val (.int (own_ch p2)), .val (.int (own_ch p3)), .val (.int (own_ch p4)), .val (.int (own_ch p5)), .val (.ref b1), .unset, .unset, .unset, .unset, .unset]) rfl ?_
    show Steps p.tables e below (T5.setTop (mkF m 61 #[.val (.int p1), .val (.int p2), .val (.int p3), .val (.int p4), .val (.int p5), .val (.int 1), .val (.int (own_ch p2)), .val (.int (own_ch p3)), .val (.int (own_ch p4)), .val (.int (own_ch p5)), .val (.ref b1), .unset, .unset, .unset, .unset, .unset] [])) _
    refine XS.iconst X5.here hx rfl (hb hby at_61) ?_
    refine st6 _ ?_
    show Steps p.tables e below (T6.setTop (mkF m 64 #[.val (.int p1), .val (.int p2), .val (.int p3), .val (.int p4), .val (.int p5), .val (.int 1), .val (.int (own_ch p2)), .val (.int (own_ch p3)), .val (.int (own_ch p4)), .val (.int (own_ch p5)), .val (.ref b1), .unset, .unset, .unset, .unset, .unset] [(.ref b6)])) _
    refine XS.dup X6.here hx rfl (hb hby at_64) rfl rfl ?_
    refine XS.iconst X6.here hx rfl (hb hby at_65) ?_
    refine XS.iload X6.here hx rfl (hb hby at_66) rfl ?_
    refine st8 _ ?_
    show Steps p.tables e below (T8.setTop (mkF m 69 #[.val (.int p1), .val (.int p2), .val (.int p3), .val (.int p4), .val (.int p5), .val (.int 1), .val (.int (own_ch p2)), .val (.int (own_ch p3)), .val (.int (own_ch p4)), .val (.int (own_ch p5)), .val (.ref b1), .unset, .unset, .unset, .unset, .unset] [(.ref b6)])) _
    refine XS.dup X8.here hx rfl (hb hby at_69) rfl rfl ?_
    refine XS.iconst X8.here hx rfl (hb hby at_70) ?_
    refine XS.iload X8.here hx rfl (hb hby at_71) rfl ?_
    refine st10 _ ?_
    show Steps p.tables e below (T10.setTop (mkF m 74 #[.val (.int p1), .val (.int p2), .val (.int p3), .val (.int p4), .val (.int p5), .val (.int 1), .val (.int (own_ch p2)), .val (.int (own_ch p3)), .val (.int (own_ch p4)), .val (.int (own_ch p5)), .val (.ref b1), .unset, .unset, .unset, .unset, .unset] [(.ref b6)])) _
    refine XS.astore X10.here hx rfl (hb hby at_74) rfl rfl (l' := #[.val (.int p1), .val (.int p2), .val (.int p3), .val (.int p4), .val (.int p5), .val (.int 1), .val (.int (own_ch p2)), .val (.int (own_ch p3)), .val (.int (own_ch p4)), .val (.int (own_ch p5)), .val (.ref b1), .val (.ref b6), .unset, .unset, .unset, .unset]) rfl ?_
    show Steps p.tables e below (T10.setTop (mkF m 76 (own_F1 p1 p2 p3 p4 p5 b1 b6) [])) _
    refine XS.iload X10.here hx rfl (hb hby at_76) rfl ?_
    refine XS.ifNo X10.here hx rfl (hb hby at_78) rfl ((if0 _ _).trans (feq (by decide : ¬ ((1 : Int32) = (0 : Int32)))).1) ?_
    show Steps p.tables e below (T10.setTop (mkF m 81 (own_F1 p1 p2 p3 p4 p5 b1 b6) [])) _
    refine XS.bipush X10.here hx rfl (hb hby at_81) ?_
    refine st11 _ ?_
    show Steps p.tables e below (T11.setTop (mkF m 85 (own_F1 p1 p2 p3 p4 p5 b1 b6) [(.ref b11)])) _
    refine XS.dup X11.here hx rfl (hb hby at_85) rfl rfl ?_
    refine XS.iconst X11.here hx rfl (hb hby at_86) ?_
    refine XS.bipush X11.here hx rfl (hb hby at_87) ?_
    refine st13 _ ?_
    show Steps p.tables e below (T13.setTop (mkF m 90 (own_F1 p1 p2 p3 p4 p5 b1 b6) [(.ref b11)])) _
    refine XS.dup X13.here hx rfl (hb hby at_90) rfl rfl ?_
    refine XS.iconst X13.here hx rfl (hb hby at_91) ?_
    refine XS.bipush X13.here hx rfl (hb hby at_92) ?_
    refine st15 _ ?_
    show Steps p.tables e below (T15.setTop (mkF m 95 (own_F1 p1 p2 p3 p4 p5 b1 b6) [(.ref b11)])) _
    refine XS.dup X15.here hx rfl (hb hby at_95) rfl rfl ?_
    refine XS.iconst X15.here hx rfl (hb hby at_96) ?_
    refine XS.bipush X15.here hx rfl (hb hby at_97) ?_
    refine st17 _ ?_
    show Steps p.tables e below (T17.setTop (mkF m 100 (own_F1 p1 p2 p3 p4 p5 b1 b6) [(.ref b11)])) _
    refine XS.dup X17.here hx rfl (hb hby at_100) rfl rfl ?_
    refine XS.iconst X17.here hx rfl (hb hby at_101) ?_
    refine XS.bipush X17.here hx rfl (hb hby at_102) ?_
    refine st19 _ ?_
    show Steps p.tables e below (T19.setTop (mkF m 105 (own_F1 p1 p2 p3 p4 p5 b1 b6) [(.ref b11)])) _
    refine XS.dup X19.here hx rfl (hb hby at_105) rfl rfl ?_
    refine XS.iconst X19.here hx rfl (hb hby at_106) ?_
    refine XS.bipush X19.here hx rfl (hb hby at_107) ?_
    refine st21 _ ?_
    show Steps p.tables e below (T21.setTop (mkF m 110 (own_F1 p1 p2 p3 p4 p5 b1 b6) [(.ref b11)])) _
    refine XS.dup X21.here hx rfl (hb hby at_110) rfl rfl ?_
    refine XS.iconst X21.here hx rfl (hb hby at_111) ?_
    refine XS.bipush X21.here hx rfl (hb hby at_112) ?_
    refine st23 _ ?_
    show Steps p.tables e below (T23.setTop (mkF m 115 (own_F1 p1 p2 p3 p4 p5 b1 b6) [(.ref b11)])) _
    refine XS.dup X23.here hx rfl (hb hby at_115) rfl rfl ?_
    refine XS.bipush X23.here hx rfl (hb hby at_116) ?_
    refine XS.bipush X23.here hx rfl (hb hby at_118) ?_
    refine st25 _ ?_
    show Steps p.tables e below (T25.setTop (mkF m 121 (own_F1 p1 p2 p3 p4 p5 b1 b6) [(.ref b11)])) _
    refine XS.dup X25.here hx rfl (hb hby at_121) rfl rfl ?_
    refine XS.bipush X25.here hx rfl (hb hby at_122) ?_
    refine XS.bipush X25.here hx rfl (hb hby at_124) ?_
    refine st27 _ ?_
    show Steps p.tables e below (T27.setTop (mkF m 127 (own_F1 p1 p2 p3 p4 p5 b1 b6) [(.ref b11)])) _
    refine XS.dup X27.here hx rfl (hb hby at_127) rfl rfl ?_
    refine XS.bipush X27.here hx rfl (hb hby at_128) ?_
    refine XS.bipush X27.here hx rfl (hb hby at_130) ?_
    refine st29 _ ?_
    show Steps p.tables e below (T29.setTop (mkF m 133 (own_F1 p1 p2 p3 p4 p5 b1 b6) [(.ref b11)])) _
    refine XS.dup X29.here hx rfl (hb hby at_133) rfl rfl ?_
    refine XS.bipush X29.here hx rfl (hb hby at_134) ?_
    refine XS.bipush X29.here hx rfl (hb hby at_136) ?_
    refine st31 _ ?_
    show Steps p.tables e below (T31.setTop (mkF m 139 (own_F1 p1 p2 p3 p4 p5 b1 b6) [(.ref b11)])) _
    refine XS.dup X31.here hx rfl (hb hby at_139) rfl rfl ?_
    refine XS.bipush X31.here hx rfl (hb hby at_140) ?_
    refine XS.bipush X31.here hx rfl (hb hby at_142) ?_
    refine st33 _ ?_
    show Steps p.tables e below (T33.setTop (mkF m 145 (own_F1 p1 p2 p3 p4 p5 b1 b6) [(.ref b11)])) _
    refine XS.dup X33.here hx rfl (hb hby at_145) rfl rfl ?_
    refine XS.bipush X33.here hx rfl (hb hby at_146) ?_
    refine XS.bipush X33.here hx rfl (hb hby at_148) ?_
    refine st35 _ ?_
    show Steps p.tables e below (T35.setTop (mkF m 151 (own_F1 p1 p2 p3 p4 p5 b1 b6) [(.ref b11)])) _
    refine XS.dup X35.here hx rfl (hb hby at_151) rfl rfl ?_
    refine XS.bipush X35.here hx rfl (hb hby at_152) ?_
    refine XS.bipush X35.here hx rfl (hb hby at_154) ?_
    refine st37 _ ?_
    show Steps p.tables e below (T37.setTop (mkF m 157 (own_F1 p1 p2 p3 p4 p5 b1 b6) [(.ref b11)])) _
    refine XS.dup X37.here hx rfl (hb hby at_157) rfl rfl ?_
    refine XS.bipush X37.here hx rfl (hb hby at_158) ?_
    refine XS.bipush X37.here hx rfl (hb hby at_160) ?_
    refine st39 _ ?_
    show Steps p.tables e below (T39.setTop (mkF m 163 (own_F1 p1 p2 p3 p4 p5 b1 b6) [(.ref b11)])) _
    refine XS.dup X39.here hx rfl (hb hby at_163) rfl rfl ?_
    refine XS.bipush X39.here hx rfl (hb hby at_164) ?_
    refine XS.bipush X39.here hx rfl (hb hby at_166) ?_
    refine st41 _ ?_
    show Steps p.tables e below (T41.setTop (mkF m 169 (own_F1 p1 p2 p3 p4 p5 b1 b6) [(.ref b11)])) _
    refine XS.dup X41.here hx rfl (hb hby at_169) rfl rfl ?_
    refine XS.bipush X41.here hx rfl (hb hby at_170) ?_
    refine XS.bipush X41.here hx rfl (hb hby at_172) ?_
    refine st43 _ ?_
    show Steps p.tables e below (T43.setTop (mkF m 175 (own_F1 p1 p2 p3 p4 p5 b1 b6) [(.ref b11)])) _
    refine XS.dup X43.here hx rfl (hb hby at_175) rfl rfl ?_
    refine XS.bipush X43.here hx rfl (hb hby at_176) ?_
    refine XS.bipush X43.here hx rfl (hb hby at_178) ?_
    refine st45 _ ?_
    show Steps p.tables e below (T45.setTop (mkF m 181 (own_F1 p1 p2 p3 p4 p5 b1 b6) [(.ref b11)])) _
    refine XS.dup X45.here hx rfl (hb hby at_181) rfl rfl ?_
    refine XS.bipush X45.here hx rfl (hb hby at_182) ?_
    refine XS.iload X45.here hx rfl (hb hby at_184) rfl ?_
    refine st47 _ ?_
    show Steps p.tables e below (T47.setTop (mkF m 187 (own_F1 p1 p2 p3 p4 p5 b1 b6) [(.ref b11)])) _
    refine XS.dup X47.here hx rfl (hb hby at_187) rfl rfl ?_
    refine XS.bipush X47.here hx rfl (hb hby at_188) ?_
    refine XS.iload X47.here hx rfl (hb hby at_190) rfl ?_
    refine st49 _ ?_
    show Steps p.tables e below (T49.setTop (mkF m 193 (own_F1 p1 p2 p3 p4 p5 b1 b6) [(.ref b11)])) _
    refine XS.dup X49.here hx rfl (hb hby at_193) rfl rfl ?_
    refine XS.bipush X49.here hx rfl (hb hby at_194) ?_
    refine XS.bipush X49.here hx rfl (hb hby at_196) ?_
    refine st51 _ ?_
    show Steps p.tables e below (T51.setTop (mkF m 199 (own_F1 p1 p2 p3 p4 p5 b1 b6) [(.ref b11)])) _
    refine XS.dup X51.here hx rfl (hb hby at_199) rfl rfl ?_
    refine XS.bipush X51.here hx rfl (hb hby at_200) ?_
    refine XS.bipush X51.here hx rfl (hb hby at_202) ?_
    refine st53 _ ?_
    show Steps p.tables e below (T53.setTop (mkF m 205 (own_F1 p1 p2 p3 p4 p5 b1 b6) [(.ref b11)])) _
    refine XS.dup X53.here hx rfl (hb hby at_205) rfl rfl ?_
    refine XS.bipush X53.here hx rfl (hb hby at_206) ?_
    refine XS.bipush X53.here hx rfl (hb hby at_208) ?_
    refine st55 _ ?_
    show Steps p.tables e below (T55.setTop (mkF m 211 (own_F1 p1 p2 p3 p4 p5 b1 b6) [(.ref b11)])) _
    refine XS.dup X55.here hx rfl (hb hby at_211) rfl rfl ?_
    refine XS.bipush X55.here hx rfl (hb hby at_212) ?_
    refine XS.bipush X55.here hx rfl (hb hby at_214) ?_
    refine st57 _ ?_
    show Steps p.tables e below (T57.setTop (mkF m 217 (own_F1 p1 p2 p3 p4 p5 b1 b6) [(.ref b11)])) _
    refine XS.dup X57.here hx rfl (hb hby at_217) rfl rfl ?_
    refine XS.bipush X57.here hx rfl (hb hby at_218) ?_
    refine XS.bipush X57.here hx rfl (hb hby at_220) ?_
    refine st59 _ ?_
    show Steps p.tables e below (T59.setTop (mkF m 223 (own_F1 p1 p2 p3 p4 p5 b1 b6) [(.ref b11)])) _
    refine XS.dup X59.here hx rfl (hb hby at_223) rfl rfl ?_
    refine XS.bipush X59.here hx rfl (hb hby at_224) ?_
    refine XS.bipush X59.here hx rfl (hb hby at_226) ?_
    refine st61 _ ?_
    show Steps p.tables e below (T61.setTop (mkF m 229 (own_F1 p1 p2 p3 p4 p5 b1 b6) [(.ref b11)])) _
    refine XS.dup X61.here hx rfl (hb hby at_229) rfl rfl ?_
    refine XS.bipush X61.here hx rfl (hb hby at_230) ?_
    refine XS.bipush X61.here hx rfl (hb hby at_232) ?_
    refine st63 _ ?_
    show Steps p.tables e below (T63.setTop (mkF m 235 (own_F1 p1 p2 p3 p4 p5 b1 b6) [(.ref b11)])) _
    refine XS.dup X63.here hx rfl (hb hby at_235) rfl rfl ?_
    refine XS.bipush X63.here hx rfl (hb hby at_236) ?_
    refine XS.bipush X63.here hx rfl (hb hby at_238) ?_
    refine st65 _ ?_
    show Steps p.tables e below (T65.setTop (mkF m 241 (own_F1 p1 p2 p3 p4 p5 b1 b6) [(.ref b11)])) _
    refine XS.dup X65.here hx rfl (hb hby at_241) rfl rfl ?_
    refine XS.bipush X65.here hx rfl (hb hby at_242) ?_
    refine XS.bipush X65.here hx rfl (hb hby at_244) ?_
    refine st67 _ ?_
    show Steps p.tables e below (T67.setTop (mkF m 247 (own_F1 p1 p2 p3 p4 p5 b1 b6) [(.ref b11)])) _
    refine XS.dup X67.here hx rfl (hb hby at_247) rfl rfl ?_
    refine XS.bipush X67.here hx rfl (hb hby at_248) ?_
    refine XS.bipush X67.here hx rfl (hb hby at_250) ?_
    refine st69 _ ?_
    show Steps p.tables e below (T69.setTop (mkF m 253 (own_F1 p1 p2 p3 p4 p5 b1 b6) [(.ref b11)])) _
    refine XS.dup X69.here hx rfl (hb hby at_253) rfl rfl ?_
    refine XS.bipush X69.here hx rfl (hb hby at_254) ?_
    refine XS.bipush X69.here hx rfl (hb hby at_256) ?_
    refine st71 _ ?_
    show Steps p.tables e below (T71.setTop (mkF m 259 (own_F1 p1 p2 p3 p4 p5 b1 b6) [(.ref b11)])) _
    refine XS.dup X71.here hx rfl (hb hby at_259) rfl rfl ?_
    refine XS.bipush X71.here hx rfl (hb hby at_260) ?_
    refine XS.bipush X71.here hx rfl (hb hby at_262) ?_
    refine st73 _ ?_
    show Steps p.tables e below (T73.setTop (mkF m 265 (own_F1 p1 p2 p3 p4 p5 b1 b6) [(.ref b11)])) _
    refine XS.dup X73.here hx rfl (hb hby at_265) rfl rfl ?_
    refine XS.bipush X73.here hx rfl (hb hby at_266) ?_
    refine XS.bipush X73.here hx rfl (hb hby at_268) ?_
    refine st75 _ ?_
    show Steps p.tables e below (T75.setTop (mkF m 271 (own_F1 p1 p2 p3 p4 p5 b1 b6) [(.ref b11)])) _
    refine XS.dup X75.here hx rfl (hb hby at_271) rfl rfl ?_
    refine XS.bipush X75.here hx rfl (hb hby at_272) ?_
    refine XS.bipush X75.here hx rfl (hb hby at_274) ?_
    refine st77 _ ?_
    show Steps p.tables e below (T77.setTop (mkF m 277 (own_F1 p1 p2 p3 p4 p5 b1 b6) [(.ref b11)])) _
    refine XS.dup X77.here hx rfl (hb hby at_277) rfl rfl ?_
    refine XS.bipush X77.here hx rfl (hb hby at_278) ?_
    refine XS.bipush X77.here hx rfl (hb hby at_280) ?_
    refine st79 _ ?_
    show Steps p.tables e below (T79.setTop (mkF m 283 (own_F1 p1 p2 p3 p4 p5 b1 b6) [(.ref b11)])) _
    refine XS.dup X79.here hx rfl (hb hby at_283) rfl rfl ?_
    refine XS.bipush X79.here hx rfl (hb hby at_284) ?_
    refine XS.bipush X79.here hx rfl (hb hby at_286) ?_
    refine st81 _ ?_
    show Steps p.tables e below (T81.setTop (mkF m 289 (own_F1 p1 p2 p3 p4 p5 b1 b6) [(.ref b11)])) _
    refine XS.dup X81.here hx rfl (hb hby at_289) rfl rfl ?_
    refine XS.bipush X81.here hx rfl (hb hby at_290) ?_
    refine XS.bipush X81.here hx rfl (hb hby at_292) ?_
    refine st83 _ ?_
    show Steps p.tables e below (T83.setTop (mkF m 295 (own_F1 p1 p2 p3 p4 p5 b1 b6) [(.ref b11)])) _
    refine XS.dup X83.here hx rfl (hb hby at_295) rfl rfl ?_
    refine XS.bipush X83.here hx rfl (hb hby at_296) ?_
    refine XS.bipush X83.here hx rfl (hb hby at_298) ?_
    refine st85 _ ?_
    show Steps p.tables e below (T85.setTop (mkF m 301 (own_F1 p1 p2 p3 p4 p5 b1 b6) [(.ref b11)])) _
    refine XS.dup X85.here hx rfl (hb hby at_301) rfl rfl ?_
    refine XS.bipush X85.here hx rfl (hb hby at_302) ?_
    refine XS.bipush X85.here hx rfl (hb hby at_304) ?_
    refine st87 _ ?_
    show Steps p.tables e below (T87.setTop (mkF m 307 (own_F1 p1 p2 p3 p4 p5 b1 b6) [(.ref b11)])) _
    refine XS.dup X87.here hx rfl (hb hby at_307) rfl rfl ?_
    refine XS.bipush X87.here hx rfl (hb hby at_308) ?_
    refine XS.bipush X87.here hx rfl (hb hby at_310) ?_
    refine st89 _ ?_
    show Steps p.tables e below (T89.setTop (mkF m 313 (own_F1 p1 p2 p3 p4 p5 b1 b6) [(.ref b11)])) _
    refine XS.dup X89.here hx rfl (hb hby at_313) rfl rfl ?_
    refine XS.bipush X89.here hx rfl (hb hby at_314) ?_
    refine XS.bipush X89.here hx rfl (hb hby at_316) ?_
    refine st91 _ ?_
    show Steps p.tables e below (T91.setTop (mkF m 319 (own_F1 p1 p2 p3 p4 p5 b1 b6) [(.ref b11)])) _
    refine XS.dup X91.here hx rfl (hb hby at_319) rfl rfl ?_
    refine XS.bipush X91.here hx rfl (hb hby at_320) ?_
    refine XS.bipush X91.here hx rfl (hb hby at_322) ?_
    refine st93 _ ?_
    show Steps p.tables e below (T93.setTop (mkF m 325 (own_F1 p1 p2 p3 p4 p5 b1 b6) [(.ref b11)])) _
    refine XS.dup X93.here hx rfl (hb hby at_325) rfl rfl ?_
    refine XS.bipush X93.here hx rfl (hb hby at_326) ?_
    refine XS.bipush X93.here hx rfl (hb hby at_328) ?_
    refine st95 _ ?_
    show Steps p.tables e below (T95.setTop (mkF m 331 (own_F1 p1 p2 p3 p4 p5 b1 b6) [(.ref b11)])) _
    refine XS.dup X95.here hx rfl (hb hby at_331) rfl rfl ?_
    refine XS.bipush X95.here hx rfl (hb hby at_332) ?_
    refine XS.iload X95.here hx rfl (hb hby at_334) rfl ?_
    refine st97 _ ?_
    show Steps p.tables e below (T97.setTop (mkF m 337 (own_F1 p1 p2 p3 p4 p5 b1 b6) [(.ref b11)])) _
    refine XS.dup X97.here hx rfl (hb hby at_337) rfl rfl ?_
    refine XS.bipush X97.here hx rfl (hb hby at_338) ?_
    refine XS.iload X97.here hx rfl (hb hby at_340) rfl ?_
    refine st99 _ ?_
    show Steps p.tables e below (T99.setTop (mkF m 343 (own_F1 p1 p2 p3 p4 p5 b1 b6) [(.ref b11)])) _
    refine XS.astore X99.here hx rfl (hb hby at_343) rfl rfl (l' := #[.val (.int p1), .val (.int p2), .val (.int p3), .val (.int p4), .val (.int p5), .val (.int 1), .val (.int (own_ch p2)), .val (.int (own_ch p3)), .val (.int (own_ch p4)), .val (.int (own_ch p5)), .val (.ref b1), .val (.ref b6), .val (.ref b11), .unset, .unset, .unset]) rfl ?_
    show Steps p.tables e below (T99.setTop (mkF m 345 (own_F2 p1 p2 p3 p4 p5 b1 b6 b11) [])) _
    refine XS.goto X99.here hx rfl (pc0 := 345) (pc' := 630) rfl (hb hby at_345) (by decide) (by decide) ?_
    show Steps p.tables e below (T99.setTop (mkF m 630 #[.val (.int p1), .val (.int p2), .val (.int p3), .val (.int p4), .val (.int p5), .val (.int 1), .val (.int (own_ch p2)), .val (.int (own_ch p3)), .val (.int (own_ch p4)), .val (.int (own_ch p5)), .val (.ref b1), .val (.ref b6), .val (.ref b11), .unset, .unset, .unset] [])) _
    refine st100 _ ?_
    show Steps p.tables e below (T100.setTop (mkF m 633 #[.val (.int p1), .val (.int p2), .val (.int p3), .val (.int p4), .val (.int p5), .val (.int 1), .val (.int (own_ch p2)), .val (.int (own_ch p3)), .val (.int (own_ch p4)), .val (.int (own_ch p5)), .val (.ref b1), .val (.ref b6), .val (.ref b11), .unset, .unset, .unset] [(.ref b100)])) _
    refine XS.dup X100.here hx rfl (hb hby at_633) rfl rfl ?_
    refine XS.aload X100.here hx rfl (hb hby at_634) rfl rfl ?_
    refine st101.trans ?_
    show Steps p.tables e below (T101.setTop (mkF m 639 #[.val (.int p1), .val (.int p2), .val (.int p3), .val (.int p4), .val (.int p5), .val (.int 1), .val (.int (own_ch p2)), .val (.int (own_ch p3)), .val (.int (own_ch p4)), .val (.int (own_ch p5)), .val (.ref b1), .val (.ref b6), .val (.ref b11), .unset, .unset, .unset] [(.ref b100)])) _
    refine XS.astore X101.here hx rfl (hb hby at_639) rfl rfl (l' := #[.val (.int p1), .val (.int p2), .val (.int p3), .val (.int p4), .val (.int p5), .val (.int 1), .val (.int (own_ch p2)), .val (.int (own_ch p3)), .val (.int (own_ch p4)), .val (.int (own_ch p5)), .val (.ref b1), .val (.ref b6), .val (.ref b11), .val (.ref b100), .unset, .unset]) rfl ?_
    show Steps p.tables e below (T101.setTop (mkF m 641 #[.val (.int p1), .val (.int p2), .val (.int p3), .val (.int p4), .val (.int p5), .val (.int 1), .val (.int (own_ch p2)), .val (.int (own_ch p3)), .val (.int (own_ch p4)), .val (.int (own_ch p5)), .val (.ref b1), .val (.ref b6), .val (.ref b11), .val (.ref b100), .unset, .unset] [])) _
    refine st102 _ ?_
    show Steps p.tables e below (T102.setTop (mkF m 644 #[.val (.int p1), .val (.int p2), .val (.int p3), .val (.int p4), .val (.int p5), .val (.int 1), .val (.int (own_ch p2)), .val (.int (own_ch p3)), .val (.int (own_ch p4)), .val (.int (own_ch p5)), .val (.ref b1), .val (.ref b6), .val (.ref b11), .val (.ref b100), .unset, .unset] [(.ref b102)])) _
    refine XS.dup X102.here hx rfl (hb hby at_644) rfl rfl ?_
    refine st103 _ ?_
    show Steps p.tables e below (T103.setTop (mkF m 648 #[.val (.int p1), .val (.int p2), .val (.int p3), .val (.int p4), .val (.int p5), .val (.int 1), .val (.int (own_ch p2)), .val (.int (own_ch p3)), .val (.int (own_ch p4)), .val (.int (own_ch p5)), .val (.ref b1), .val (.ref b6), .val (.ref b11), .val (.ref b100), .unset, .unset] [(.ref b103), (.ref b102), (.ref b102)])) _
    refine XS.dup X103.here hx rfl (hb hby at_648) rfl rfl ?_
    refine XS.aload X103.here hx rfl (hb hby at_649) rfl rfl ?_
    refine st104.trans ?_
    show Steps p.tables e below (T104.setTop (mkF m 654 #[.val (.int p1), .val (.int p2), .val (.int p3), .val (.int p4), .val (.int p5), .val (.int 1), .val (.int (own_ch p2)), .val (.int (own_ch p3)), .val (.int (own_ch p4)), .val (.int (own_ch p5)), .val (.ref b1), .val (.ref b6), .val (.ref b11), .val (.ref b100), .unset, .unset] [(.ref b103), (.ref b102), (.ref b102)])) _
    refine st105 _ ?_
    show Steps p.tables e below (T105.setTop (mkF m 657 #[.val (.int p1), .val (.int p2), .val (.int p3), .val (.int p4), .val (.int p5), .val (.int 1), .val (.int (own_ch p2)), .val (.int (own_ch p3)), .val (.int (own_ch p4)), .val (.int (own_ch p5)), .val (.ref b1), .val (.ref b6), .val (.ref b11), .val (.ref b100), .unset, .unset] [(.ref b105), (.ref b103), (.ref b102), (.ref b102)])) _
    refine XS.dup X105.here hx rfl (hb hby at_657) rfl rfl ?_
    refine XS.aload X105.here hx rfl (hb hby at_658) rfl rfl ?_
    refine st106.trans ?_
    show Steps p.tables e below (T106.setTop (mkF m 663 #[.val (.int p1), .val (.int p2), .val (.int p3), .val (.int p4), .val (.int p5), .val (.int 1), .val (.int (own_ch p2)), .val (.int (own_ch p3)), .val (.int (own_ch p4)), .val (.int (own_ch p5)), .val (.ref b1), .val (.ref b6), .val (.ref b11), .val (.ref b100), .unset, .unset] [(.ref b105), (.ref b103), (.ref b102), (.ref b102)])) _
    refine XS.iload X106.here hx rfl (hb hby at_663) rfl ?_
    refine st107 _ ?_
    show Steps p.tables e below (T107.setTop (mkF m 667 #[.val (.int p1), .val (.int p2), .val (.int p3), .val (.int p4), .val (.int p5), .val (.int 1), .val (.int (own_ch p2)), .val (.int (own_ch p3)), .val (.int (own_ch p4)), .val (.int (own_ch p5)), .val (.ref b1), .val (.ref b6), .val (.ref b11), .val (.ref b100), .unset, .unset] [(.ref b107), (.int 1), (.ref b105), (.ref b103), (.ref b102), (.ref b102)])) _
    refine st108 _ ?_
    show Steps p.tables e below (T108.setTop (mkF m 669 #[.val (.int p1), .val (.int p2), .val (.int p3), .val (.int p4), .val (.int p5), .val (.int 1), .val (.int (own_ch p2)), .val (.int (own_ch p3)), .val (.int (own_ch p4)), .val (.int (own_ch p5)), .val (.ref b1), .val (.ref b6), .val (.ref b11), .val (.ref b100), .unset, .unset] [(.ref b108), (.ref b107), (.int 1), (.ref b105), (.ref b103), (.ref b102), (.ref b102)])) _
    refine XS.iconst X108.here hx rfl (hb hby at_669) ?_
    refine st109 _ ?_
    show Steps p.tables e below (T109.setTop (mkF m 672 #[.val (.int p1), .val (.int p2), .val (.int p3), .val (.int p4), .val (.int p5), .val (.int 1), .val (.int (own_ch p2)), .val (.int (own_ch p3)), .val (.int (own_ch p4)), .val (.int (own_ch p5)), .val (.ref b1), .val (.ref b6), .val (.ref b11), .val (.ref b100), .unset, .unset] [(.ref b109), (.ref b108), (.ref b107), (.int 1), (.ref b105), (.ref b103), (.ref b102), (.ref b102)])) _
    refine st110.trans ?_
    show Steps p.tables e below (T110.setTop (mkF m 675 #[.val (.int p1), .val (.int p2), .val (.int p3), .val (.int p4), .val (.int p5), .val (.int 1), .val (.int (own_ch p2)), .val (.int (own_ch p3)), .val (.int (own_ch p4)), .val (.int (own_ch p5)), .val (.ref b1), .val (.ref b6), .val (.ref b11), .val (.ref b100), .unset, .unset] [(.ref b102)])) _
    refine XS.astore X110.here hx rfl (hb hby at_675) rfl rfl (l' := #[.val (.int p1), .val (.int p2), .val (.int p3), .val (.int p4), .val (.int p5), .val (.int 1), .val (.int (own_ch p2)), .val (.int (own_ch p3)), .val (.int (own_ch p4)), .val (.int (own_ch p5)), .val (.ref b1), .val (.ref b6), .val (.ref b11), .val (.ref b100), .val (.ref b102), .unset]) rfl ?_
    show Steps p.tables e below (T110.setTop (mkF m 677 #[.val (.int p1), .val (.int p2), .val (.int p3), .val (.int p4), .val (.int p5), .val (.int 1), .val (.int (own_ch p2)), .val (.int (own_ch p3)), .val (.int (own_ch p4)), .val (.int (own_ch p5)), .val (.ref b1), .val (.ref b6), .val (.ref b11), .val (.ref b100), .val (.ref b102), .unset] [])) _
    refine XS.aload X110.here hx rfl (hb hby at_677) rfl rfl ?_
    refine st111.trans ?_
    show Steps p.tables e below (T111.setTop (mkF m 682 #[.val (.int p1), .val (.int p2), .val (.int p3), .val (.int p4), .val (.int p5), .val (.int 1), .val (.int (own_ch p2)), .val (.int (own_ch p3)), .val (.int (own_ch p4)), .val (.int (own_ch p5)), .val (.ref b1), .val (.ref b6), .val (.ref b11), .val (.ref b100), .val (.ref b102), .unset] [(.ref b_111)])) _
    refine XS.astore X111.here hx rfl (hb hby at_682) rfl rfl (l' := #[.val (.int p1), .val (.int p2), .val (.int p3), .val (.int p4), .val (.int p5), .val (.int 1), .val (.int (own_ch p2)), .val (.int (own_ch p3)), .val (.int (own_ch p4)), .val (.int (own_ch p5)), .val (.ref b1), .val (.ref b6), .val (.ref b11), .val (.ref b100), .val (.ref b102), .val (.ref b_111)]) rfl ?_
    show Steps p.tables e below (T111.setTop (mkF m 684 #[.val (.int p1), .val (.int p2), .val (.int p3), .val (.int p4), .val (.int p5), .val (.int 1), .val (.int (own_ch p2)), .val (.int (own_ch p3)), .val (.int (own_ch p4)), .val (.int (own_ch p5)), .val (.ref b1), .val (.ref b6), .val (.ref b11), .val (.ref b100), .val (.ref b102), .val (.ref b_111)] [])) _
    refine XS.aload X111.here hx rfl (hb hby at_684) rfl rfl ?_
    refine XS.aload X111.here hx rfl (hb hby at_686) rfl rfl ?_
    refine st112.trans ?_
    show Steps p.tables e below (T112.setTop (mkF m 691 #[.val (.int p1), .val (.int p2), .val (.int p3), .val (.int p4), .val (.int p5), .val (.int 1), .val (.int (own_ch p2)), .val (.int (own_ch p3)), .val (.int (own_ch p4)), .val (.int (own_ch p5)), .val (.ref b1), .val (.ref b6), .val (.ref b11), .val (.ref b100), .val (.ref b102), .val (.ref b_111)] [(.int 1)])) _
    exact retN X112 hx (t := .boolean) Bd.returns (by simp) (hb hby at_691) hr
  · show Q_rm0 Z p1 p2 p3 p4 p5 zc cu h0 n0 _ T112.heap _
    rw [e112]
    exact ⟨rfl, N112, Q111⟩
theorem rm0 (l : Launch) (Z : State) (a0 : Array Value) (hw : ∀ d ∈ tables_1, d.before a0 Z = true) (ws : List Jvm.Cond) (p1 : Int32) (p2 : Int32) (p3 : Int32) (p4 : Int32) (p5 : Int32) (zc : Int32) (cu : Addr) (h0 : Heap) (n0 : Nat) (Z0 : n0 ≤ h0.size) (S_COMPACT_STRINGS_ : Sta Z h0 "java/lang/String" "COMPACT_STRINGS" "Z" (.int zc)) (hzc : ¬ zc = 0) (S_UTF_8_ : Sta Z h0 "java/nio/charset/StandardCharsets" "UTF_8" "Ljava/nio/charset/Charset;" (.ref cu)) (S_INSTANCE_ : Sta Z h0 "sun/nio/cs/UTF_8" "INSTANCE" "Lsun/nio/cs/UTF_8;" (.ref cu)) (hn0 : n0 = h0.size) (hcst : ∀ p ∈ own_EL, Jvm.Lit.constHeld Z p.1 p.2) (hcw : Jvm.Lit.compactW.before a0 Z = true) :
    MetFree l x (head1 (Jvm.Cond.code x code maxLocals ret :: ws) room_1) (fun a U => a = #[(.int p1), (.int p2), (.int p3), (.int p4), (.int p5)] ∧ Z = U ∧ U.heap = h0) (fun _ _ _ _ _ => True) (fun _ U o U' => ∃ v L, o = .returned v ∧ Q_rm0 Z p1 p2 p3 p4 p5 zc cu h0 n0 v U'.heap L ∧ ReturnedEndW U o U' L room_1.cells room_1.slots) := by
  by_cases hc3 : (p1 &&& (1 : Int32)) = (0 : Int32)
  · skip
    exact rm0_t l Z a0 hw ws p1 p2 p3 p4 p5 zc cu h0 n0 Z0 S_COMPACT_STRINGS_ hzc S_UTF_8_ S_INSTANCE_ hn0 hcst hcw hc3
  · skip
    exact rm0_f l Z a0 hw ws p1 p2 p3 p4 p5 zc cu h0 n0 Z0 S_COMPACT_STRINGS_ hzc S_UTF_8_ S_INSTANCE_ hn0 hcst hcw hc3
set_option maxRecDepth 65536 in
set_option maxHeartbeats 40000000 in
theorem comes_1 {Post : Tables → Env → Array Value → State → Outcome → State → Prop} (hpost : ∀ tb e args s v u, (limb_1_1.after args s (.returned v) u = true ∧ limb_1_2.after args s (.returned v) u = true ∧ True) → ReturnedEndW s (.returned v) u (Jvm.fieldLocs frame_1_writes args s ++ Jvm.arrayLocs frame_1_arrays args s ++ Jvm.staticLocs frame_1_statics s) 72 9920 → Post tb e args s (.returned v) u) :
    ArmFor flags0 classFile x code maxLocals ret World_1 tables_1 room_1 Calls_1 rest_1 Pre_1 Post := by
  intro l hfl _ _ p e ha hc hk s m args below hf hA hF happ hP
  obtain ⟨hcalls, hrest, hpre⟩ := hP
  obtain ⟨-, -, -, hnamed, -, -, -, hat⟩ := (Spec.applies_iff hf).mp happ
  obtain ⟨hg, hn⟩ := and_e (Cond.before_iff.mp (show (Jvm.Cond.and given_1 narrow_1).before args s = true from hpre))
  obtain ⟨g0, gr0⟩ := and_e hg
  obtain ⟨g1, gr1⟩ := and_e gr0
  obtain ⟨g2, gr2⟩ := and_e gr1
  obtain ⟨g3, gr3⟩ := and_e gr2
  obtain ⟨g4, gr4⟩ := and_e gr3
  obtain ⟨w0, w1, w2, w3, w4, rfl⟩ : ∃ w0 w1 w2 w3 w4 : Value, args = #[w0, w1, w2, w3, w4] := by
    have hs : args.size = 5 := by simpa [Cond.value, given_1] using g0
    obtain ⟨L⟩ := args
    match L, hs with
    | [w0, w1, w2, w3, w4], _ => exact ⟨w0, w1, w2, w3, w4, rfl⟩
  have hw := fun d (hd : d ∈ tables_1) => atoms_spec (ws := Jvm.Cond.code x code maxLocals ret :: tables_1) hat d (List.mem_cons_of_mem _ hd)
  have hfit : Fit s := fun {y c} hc i hi => by
    obtain ⟨ha, rfl⟩ := Array.getElem?_eq_some_iff.mp hc
    have q := List.all_eq_true.mp ((Array.all_eq_true_iff_forall_mem.mp hF) _ (Array.getElem_mem ha)) i (List.mem_range.mpr hi)
    simpa [Array.getElem?_eq_getElem hi] using q
  obtain ⟨hsets, hown0⟩ := atoms_of _ (rest_1_c_eq ▸ (show rest_1_c.before _ s = true from hrest))
  have hr0 := Cond.before_iff.mp hown0
  obtain ⟨i0, ei0⟩ := is_v g1
  obtain rfl : w0 = (.int i0) := Option.some.inj ei0
  obtain ⟨i1, ei1⟩ := is_v g2
  obtain rfl : w1 = (.int i1) := Option.some.inj ei1
  obtain ⟨i2, ei2⟩ := is_v g3
  obtain rfl : w2 = (.int i2) := Option.some.inj ei2
  obtain ⟨i3, ei3⟩ := is_v g4
  obtain rfl : w3 = (.int i3) := Option.some.inj ei3
  obtain ⟨i4, ei4⟩ := is_v gr4
  obtain rfl : w4 = (.int i4) := Option.some.inj ei4
  obtain ⟨zc, ez⟩ := is_v (Cond.before_iff.mp (hsets _ (List.mem_of_getElem? (i := 1) rfl)))
  have S_zc := Sta.start ez (Or.inl (hsets _ (List.mem_of_getElem? (i := 0) rfl)))
  have hzc := own_notz (Cond.before_iff.mp (hsets _ (List.mem_of_getElem? (i := 2) rfl))) ez
  obtain ⟨cu, ecu⟩ := exa_v (Cond.before_iff.mp (hsets _ (List.mem_of_getElem? (i := 14) rfl)))
  obtain ⟨ci, eci⟩ := exa_v (Cond.before_iff.mp (hsets _ (List.mem_of_getElem? (i := 17) rfl)))
  obtain rfl := own_eqr (Cond.before_iff.mp (hsets _ (List.mem_of_getElem? (i := 13) rfl))) ecu eci
  have S_cu := Sta.start ecu (Or.inl (hsets _ (List.mem_of_getElem? (i := 10) rfl)))
  have S_ci := Sta.start eci (Or.inl (hsets _ (List.mem_of_getElem? (i := 12) rfl)))
  have hcst : ∀ p ∈ own_EL, Jvm.Lit.constHeld s p.1 p.2 := fun p hp => hcalls.1 p ((by decide : ∀ p ∈ own_EL, p ∈ consts_1) p hp)
  obtain ⟨n, o, h1, h2, h3, _, L, rfl, ⟨rfl, N, -⟩, hq⟩ := rm0 l s _ hw tables_1 i0 i1 i2 i3 i4 zc _ s.heap s.heap.size (Nat.le_refl _) S_zc hzc S_cu S_ci rfl hcst (hsets _ (List.mem_of_getElem? (i := 2) rfl)) p e ha hc hk s m _ below hf ((Spec.applies_iff_loose hf).mp happ).1 ⟨rfl, rfl, rfl⟩ trivial
  refine ⟨n, _, h1, h2, h3, hpost _ _ _ _ _ _ ⟨Cond.after_iff.mpr rfl, Cond.after_iff.mpr (eq_i res_at (Term.int_eval (1)) rfl), trivial⟩ ⟨hq.1, hq.2.1, hq.2.2.1, (hq.2.2.2.sift fun y hy => Or.inr (N y hy)).mono (by decide) (by decide)⟩⟩
theorem main_1_1 : Claimed_1_1 := comes_1 fun _ _ _ _ _ _ h hF => ⟨h.1, hF⟩
theorem main_1_2 : Claimed_1_2 := comes_1 fun _ _ _ _ _ _ h hF => ⟨h.2.1, hF⟩
end Jvm.Pilot.@@N@@
namespace Jvm.Pilot.@@N@@
open Jvm Jvm.ClassFile Sem Op Lib Jvm.Free Jvm.Stand Jvm.Pilot.@@N@@.Jvm.D
/-! MADE BY PROGRAM (witnessworld.py) out of the Statement's table words and the real class files: 34 classes; the members and pool entries that the words name. The judged class is class 1, her method 1. -/
namespace start1
open Jvm.ClassFile
def u (s : String) : CpInfo := .utf8 (stringToUtf16 s)
/-- a pool by its gaps: so many unusable entries, then the entry; so many at the end -/
def gap : Nat → List CpInfo → List CpInfo
  | 0, r => r
  | n + 1, r => .unusable :: gap n r
def poolList (es : List (Nat × CpInfo)) (last : Nat) : List CpInfo := es.foldr (fun e r => gap e.1 (e.2 :: r)) (gap last [])
def pool (es : List (Nat × CpInfo)) (last : Nat) : Array CpInfo := ⟨poolList es last⟩
def fileOf (pool : Array CpInfo) (this : Nat) (attrs : Array Attribute := #[]) (ms : Array MethodInfo := #[]) (fl : Nat := 33) (sup : Nat := 0) (ifs : Array Nat := #[]) (fds : Array FieldInfo := #[]) : ClassFile where
  minorVersion := 0
  majorVersion := 65
  constantPool := pool
  accessFlags := fl
  thisClass := this
  superClass := sup
  interfaces := ifs
  fields := fds
  methods := ms
  attributes := attrs
def plain (name : String) (sup : Option ClassId) : Class where
  name := name
  kind := .ordinary
  loader := none
  accessFlags := 33
  super := sup
  interfaces := #[]
  cf := none
  fields := #[]
  methods := #[]
  instanceTypes := #[]
  staticTypes := #[]
  resolved := #[]
  callSites := []
  init := .initialized
  statics := none
  mirror := none

def pool0 : Array CpInfo := pool [(5, u "<init>"), (0, u "()V"), (1, .class_ 10), (1, u "java/lang/Object"), (85, u "clone"), (0, u "()Ljava/lang/Object;")] 26

def k0c0 : Code := { maxStack := 0, maxLocals := 1, code := object_method_1_code, exceptionTable := #[], attributes := #[] }
def k0m0 : Method := { name := "<init>", desc := "()V", sig := { parameters := [], returnType := none }, accessFlags := 1, code := some k0c0 }
def k0m1 : Method := { name := "clone", desc := "()Ljava/lang/Object;", sig := { parameters := [], returnType := some (.object "java/lang/Object") }, accessFlags := 260, code := none }
/-- java/lang/Object -/
def k0 : Class := { plain "java/lang/Object" none with
  accessFlags := 33
  interfaces := #[]
  cf := some (fileOf pool0 8 #[] #[{ accessFlags := 1, nameIndex := 5, descriptorIndex := 6, attributes := #[] }, { accessFlags := 260, nameIndex := 96, descriptorIndex := 97, attributes := #[] }] 33 0 #[] #[])
  fields := #[]
  methods := #[k0m0, k0m1]
  instanceTypes := #[]
  staticTypes := #[]
  resolved := Array.replicate 124 none
  statics := none }

def pool1 : Array CpInfo := pool [(2, .class_ 4), (1, u "java/lang/Object"), (0, u "<init>"), (0, u "()V"), (0, .class_ 8), (0, u "java/lang/String"), (0, .methodref 7 10), (0, .nameAndType 5 11), (0, u "([C)V"), (0, .class_ 13), (0, u "com/example/gentle_commit/gentlecommit/initiator/Message"), (0, .string 15), (0, u ""), (0, .methodref 12 17), (0, .nameAndType 5 18), (0, u "(Ljava/lang/String;Ljava/lang/String;ZLjava/lang/String;Ljava/lang/String;[B)V"), (0, .methodref 12 20), (0, .nameAndType 21 22), (0, u "describe"), (0, u "()Ljava/lang/String;"), (0, .methodref 7 24), (0, .nameAndType 25 26), (0, u "equals"), (0, u "(Ljava/lang/Object;)Z"), (0, .class_ 28), (0, u "com/example/gentle_commit/gentlecommit/initiator/MessageDescribePinLaw"), (2, u "law"), (0, u "(IIIII)Z")] 5

def k1m0 : Method := { name := "<init>", desc := "()V", sig := { parameters := [], returnType := none }, accessFlags := 1, code := none }
def k1c1 : Code := { maxStack := 8, maxLocals := 16, code := code, exceptionTable := #[], attributes := #[] }
def k1m1 : Method := { name := "law", desc := "(IIIII)Z", sig := { parameters := [.int, .int, .int, .int, .int], returnType := some .boolean }, accessFlags := 9, code := some k1c1 }
/-- com/example/gentle_commit/gentlecommit/initiator/MessageDescribePinLaw -/
def k1 : Class := { plain "com/example/gentle_commit/gentlecommit/initiator/MessageDescribePinLaw" (some 0) with
  accessFlags := 49
  interfaces := #[]
  cf := some (fileOf pool1 27 #[] #[{ accessFlags := 1, nameIndex := 5, descriptorIndex := 6, attributes := #[] }, { accessFlags := 9, nameIndex := 31, descriptorIndex := 32, attributes := #[] }] 49 2 #[] #[])
  fields := #[]
  methods := #[k1m0, k1m1]
  instanceTypes := #[]
  staticTypes := #[]
  resolved := Array.replicate 38 none
  statics := none }

def pool2 : Array CpInfo := pool [(1, .class_ 2), (0, u "java/io/Serializable"), (0, .class_ 4), (0, u "java/lang/Object")] 2

/-- java/io/Serializable -/
def k2 : Class := { plain "java/io/Serializable" (some 0) with
  accessFlags := 1537
  interfaces := #[]
  cf := some (fileOf pool2 1 #[] #[] 1537 3 #[] #[])
  fields := #[]
  methods := #[]
  instanceTypes := #[]
  staticTypes := #[]
  resolved := Array.replicate 7 none
  statics := none }

def pool3 : Array CpInfo := pool [(1, .class_ 2), (0, u "java/lang/Comparable"), (0, .class_ 4), (0, u "java/lang/Object")] 7

/-- java/lang/Comparable -/
def k3 : Class := { plain "java/lang/Comparable" (some 0) with
  accessFlags := 1537
  interfaces := #[]
  cf := some (fileOf pool3 1 #[] #[] 1537 3 #[] #[])
  fields := #[]
  methods := #[]
  instanceTypes := #[]
  staticTypes := #[]
  resolved := Array.replicate 12 none
  statics := none }

def pool4 : Array CpInfo := pool [(2, .class_ 4), (1, u "java/lang/CharSequence"), (42, .class_ 48), (0, u "java/lang/CharSequence$1CodePointIterator"), (10, .class_ 60), (0, u "java/lang/CharSequence$1CharIterator"), (5, .class_ 67), (0, u "java/lang/Object")] 63

/-- java/lang/CharSequence -/
def k4 : Class := { plain "java/lang/CharSequence" (some 0) with
  accessFlags := 1537
  interfaces := #[]
  cf := some (fileOf pool4 2 #[.nestMembers #[47, 59]] #[] 1537 66 #[] #[])
  fields := #[]
  methods := #[]
  instanceTypes := #[]
  staticTypes := #[]
  resolved := Array.replicate 131 none
  statics := none }

def pool5 : Array CpInfo := pool [(1, .class_ 2), (0, u "java/lang/constant/Constable"), (0, .class_ 4), (0, u "java/lang/Object")] 6

/-- java/lang/constant/Constable -/
def k5 : Class := { plain "java/lang/constant/Constable" (some 0) with
  accessFlags := 1537
  interfaces := #[]
  cf := some (fileOf pool5 1 #[] #[] 1537 3 #[] #[])
  fields := #[]
  methods := #[]
  instanceTypes := #[]
  staticTypes := #[]
  resolved := Array.replicate 11 none
  statics := none }

def pool6 : Array CpInfo := pool [(1, .class_ 2), (0, u "java/lang/constant/ConstantDesc"), (0, .class_ 4), (0, u "java/lang/Object")] 32

/-- java/lang/constant/ConstantDesc -/
def k6 : Class := { plain "java/lang/constant/ConstantDesc" (some 0) with
  accessFlags := 1537
  interfaces := #[]
  cf := some (fileOf pool6 1 #[] #[] 1537 3 #[] #[])
  fields := #[]
  methods := #[]
  instanceTypes := #[]
  staticTypes := #[]
  resolved := Array.replicate 37 none
  statics := none }

def pool7 : Array CpInfo := pool [(1, .methodref 2 3), (0, .class_ 4), (0, .nameAndType 5 6), (0, u "java/lang/Object"), (0, u "<init>"), (0, u "()V"), (2, .fieldref 10 11), (0, .class_ 12), (0, .nameAndType 13 14), (0, u "java/lang/String"), (0, u "value"), (0, u "[B"), (0, .fieldref 10 16), (0, .nameAndType 17 18), (0, u "coder"), (0, u "B"), (2, u "hash"), (0, u "I"), (2, u "hashIsZero"), (0, u "Z"), (0, .methodref 10 28), (0, .nameAndType 5 29), (0, u "([CIILjava/lang/Void;)V"), (8, .fieldref 10 39), (0, .nameAndType 40 26), (0, u "COMPACT_STRINGS"), (1, .class_ 44), (1, u "java/lang/StringUTF16"), (0, u "compress"), (1, .methodref 42 48), (0, .nameAndType 49 50), (0, u "coderFromArrayLen"), (0, u "([BI)B"), (3, .methodref 55 56), (0, .class_ 57), (0, .nameAndType 58 59), (0, u "java/util/Arrays"), (0, u "copyOfRange"), (0, u "([BII)[B"), (26, .fieldref 87 88), (0, .class_ 89), (0, .nameAndType 90 91), (0, u "sun/nio/cs/UTF_8"), (0, u "INSTANCE"), (0, u "Lsun/nio/cs/UTF_8;"), (1, .class_ 95), (1, u "java/lang/StringCoding"), (11, .class_ 109), (1, u "java/lang/StringLatin1"), (18, .methodref 93 129), (0, .nameAndType 130 131), (0, u "hasNegatives"), (0, u "([BII)Z"), (10, u "()Z"), (34, .methodref 42 178), (0, .nameAndType 45 179), (0, u "([CII)[B"), (13, .class_ 195), (1, u "java/lang/System"), (16, .methodref 193 213), (0, .nameAndType 214 215), (0, u "arraycopy"), (0, u "(Ljava/lang/Object;ILjava/lang/Object;II)V"), (36, .methodref 10 253), (0, .nameAndType 254 255), (0, u "encodeUTF8"), (0, u "(B[BZ)[B"), (23, .methodref 280 281), (0, .class_ 14), (0, .nameAndType 282 283), (0, u "clone"), (0, u "()Ljava/lang/Object;"), (33, u "encode"), (16, u "()I"), (0, .methodref 10 336), (0, .nameAndType 17 337), (0, u "()B"), (2, u "()[B"), (148, .methodref 10 490), (0, .nameAndType 5 491), (0, u "(Ljava/lang/AbstractStringBuilder;Ljava/lang/Void;)V"), (1, .nameAndType 494 142), (0, u "isLatin1"), (11, .nameAndType 507 334), (0, u "length"), (24, u "getBytes"), (2, .methodref 10 536), (0, .nameAndType 317 537), (0, u "(Ljava/nio/charset/Charset;B[B)[B"), (3, .methodref 107 542), (0, .nameAndType 543 544), (0, u "equals"), (0, u "([B[B)Z"), (4, .methodref 550 506), (0, .class_ 551), (0, u "java/lang/AbstractStringBuilder"), (0, .methodref 550 553), (0, .nameAndType 554 340), (0, u "getValue"), (18, u "(Ljava/lang/Object;)Z"), (1, .class_ 576), (0, u "java/lang/CharSequence"), (22, u "CASE_INSENSITIVE_ORDER"), (0, u "Ljava/util/Comparator;"), (220, u "([BIB)V"), (188, u "([C)V"), (36, .methodref 550 493), (53, u "serialPersistentFields"), (0, u "[Ljava/io/ObjectStreamField;"), (0, .class_ 1104), (0, u "java/lang/String$CaseInsensitiveComparator"), (1, .class_ 1107), (0, u "java/io/Serializable"), (0, .class_ 1109), (0, u "java/lang/Comparable"), (0, .class_ 1111), (0, u "java/lang/constant/Constable"), (0, .class_ 1113), (0, u "java/lang/constant/ConstantDesc"), (2, u "serialVersionUID"), (0, u "J"), (3, u "REPL"), (0, u "C"), (2, u "LATIN1"), (1, u "UTF16"), (105, u "(Ljava/lang/StringBuilder;)V"), (11, u "(Ljava/nio/charset/Charset;)[B")] 205

def k7m0 : Method := { name := "<init>", desc := "()V", sig := { parameters := [], returnType := none }, accessFlags := 1, code := none }
def k7c1 : Code := { maxStack := 5, maxLocals := 2, code := jdk_42_method_3_code, exceptionTable := #[], attributes := #[] }
def k7m1 : Method := { name := "<init>", desc := "([C)V", sig := { parameters := [(.array .char)], returnType := none }, accessFlags := 1, code := some k7c1 }
def k7c2 : Code := { maxStack := 4, maxLocals := 3, code := jdk_42_method_18_code, exceptionTable := #[], attributes := #[] }
def k7m2 : Method := { name := "encode", desc := "(Ljava/nio/charset/Charset;B[B)[B", sig := { parameters := [(.object "java/nio/charset/Charset"), .byte, (.array .byte)], returnType := some (.array .byte) }, accessFlags := 10, code := some k7c2 }
def k7c3 : Code := { maxStack := 5, maxLocals := 9, code := jdk_42_method_46_code, exceptionTable := #[], attributes := #[] }
def k7m3 : Method := { name := "encodeUTF8", desc := "(B[BZ)[B", sig := { parameters := [.byte, (.array .byte), .boolean], returnType := some (.array .byte) }, accessFlags := 10, code := some k7c3 }
def k7c4 : Code := { maxStack := 3, maxLocals := 2, code := jdk_42_method_53_code, exceptionTable := #[], attributes := #[] }
def k7m4 : Method := { name := "<init>", desc := "(Ljava/lang/StringBuilder;)V", sig := { parameters := [(.object "java/lang/StringBuilder")], returnType := none }, accessFlags := 1, code := some k7c4 }
def k7c5 : Code := { maxStack := 2, maxLocals := 1, code := jdk_42_method_54_code, exceptionTable := #[], attributes := #[] }
def k7m5 : Method := { name := "length", desc := "()I", sig := { parameters := [], returnType := some .int }, accessFlags := 1, code := some k7c5 }
def k7c6 : Code := { maxStack := 3, maxLocals := 2, code := jdk_42_method_64_code, exceptionTable := #[], attributes := #[] }
def k7m6 : Method := { name := "getBytes", desc := "(Ljava/nio/charset/Charset;)[B", sig := { parameters := [(.object "java/nio/charset/Charset")], returnType := some (.array .byte) }, accessFlags := 1, code := some k7c6 }
def k7c7 : Code := { maxStack := 2, maxLocals := 3, code := jdk_42_method_66_code, exceptionTable := #[], attributes := #[] }
def k7m7 : Method := { name := "equals", desc := "(Ljava/lang/Object;)Z", sig := { parameters := [(.object "java/lang/Object")], returnType := some .boolean }, accessFlags := 1, code := some k7c7 }
def k7c8 : Code := { maxStack := 5, maxLocals := 4, code := jdk_42_method_147_code, exceptionTable := #[], attributes := #[] }
def k7m8 : Method := { name := "getBytes", desc := "([BIB)V", sig := { parameters := [(.array .byte), .int, .byte], returnType := none }, accessFlags := 0, code := some k7c8 }
def k7c9 : Code := { maxStack := 4, maxLocals := 6, code := jdk_42_method_149_code, exceptionTable := #[], attributes := #[] }
def k7m9 : Method := { name := "<init>", desc := "([CIILjava/lang/Void;)V", sig := { parameters := [(.array .char), .int, .int, (.object "java/lang/Void")], returnType := none }, accessFlags := 2, code := some k7c9 }
def k7c10 : Code := { maxStack := 5, maxLocals := 5, code := jdk_42_method_150_code, exceptionTable := #[], attributes := #[] }
def k7m10 : Method := { name := "<init>", desc := "(Ljava/lang/AbstractStringBuilder;Ljava/lang/Void;)V", sig := { parameters := [(.object "java/lang/AbstractStringBuilder"), (.object "java/lang/Void")], returnType := none }, accessFlags := 0, code := some k7c10 }
def k7c11 : Code := { maxStack := 1, maxLocals := 1, code := jdk_42_method_152_code, exceptionTable := #[], attributes := #[] }
def k7m11 : Method := { name := "coder", desc := "()B", sig := { parameters := [], returnType := some .byte }, accessFlags := 0, code := some k7c11 }
/-- java/lang/String -/
def k7 : Class := { plain "java/lang/String" (some 0) with
  accessFlags := 49
  interfaces := #[2, 3, 4, 5, 6]
  cf := some (fileOf pool7 10 #[.nestMembers #[1103]] #[{ accessFlags := 1, nameIndex := 5, descriptorIndex := 6, attributes := #[] }, { accessFlags := 1, nameIndex := 5, descriptorIndex := 1010, attributes := #[] }, { accessFlags := 10, nameIndex := 317, descriptorIndex := 537, attributes := #[] }, { accessFlags := 10, nameIndex := 254, descriptorIndex := 255, attributes := #[] }, { accessFlags := 1, nameIndex := 5, descriptorIndex := 1233, attributes := #[] }, { accessFlags := 1, nameIndex := 507, descriptorIndex := 334, attributes := #[] }, { accessFlags := 1, nameIndex := 532, descriptorIndex := 1245, attributes := #[] }, { accessFlags := 1, nameIndex := 543, descriptorIndex := 573, attributes := #[] }, { accessFlags := 0, nameIndex := 532, descriptorIndex := 821, attributes := #[] }, { accessFlags := 2, nameIndex := 5, descriptorIndex := 29, attributes := #[] }, { accessFlags := 0, nameIndex := 5, descriptorIndex := 491, attributes := #[] }, { accessFlags := 0, nameIndex := 17, descriptorIndex := 337, attributes := #[] }] 49 2 #[1106, 1108, 575, 1110, 1112] #[{ accessFlags := 18, nameIndex := 13, descriptorIndex := 14, attributes := #[] }, { accessFlags := 18, nameIndex := 17, descriptorIndex := 18, attributes := #[] }, { accessFlags := 2, nameIndex := 21, descriptorIndex := 22, attributes := #[] }, { accessFlags := 2, nameIndex := 25, descriptorIndex := 26, attributes := #[] }, { accessFlags := 26, nameIndex := 1116, descriptorIndex := 1117, attributes := #[] }, { accessFlags := 24, nameIndex := 40, descriptorIndex := 26, attributes := #[] }, { accessFlags := 26, nameIndex := 1101, descriptorIndex := 1102, attributes := #[] }, { accessFlags := 26, nameIndex := 1121, descriptorIndex := 1122, attributes := #[] }, { accessFlags := 25, nameIndex := 599, descriptorIndex := 600, attributes := #[] }, { accessFlags := 24, nameIndex := 1125, descriptorIndex := 18, attributes := #[] }, { accessFlags := 24, nameIndex := 1127, descriptorIndex := 18, attributes := #[] }])
  fields := #[{ name := "value", type := (.array .byte), accessFlags := 18, slot := 0, constantValue := 0 }, { name := "coder", type := .byte, accessFlags := 18, slot := 1, constantValue := 0 }, { name := "hash", type := .int, accessFlags := 2, slot := 2, constantValue := 0 }, { name := "hashIsZero", type := .boolean, accessFlags := 2, slot := 3, constantValue := 0 }, { name := "serialVersionUID", type := .long, accessFlags := 26, slot := 0, constantValue := 0 }, { name := "COMPACT_STRINGS", type := .boolean, accessFlags := 24, slot := 1, constantValue := 0 }, { name := "serialPersistentFields", type := (.array (.object "java/io/ObjectStreamField")), accessFlags := 26, slot := 2, constantValue := 0 }, { name := "REPL", type := .char, accessFlags := 26, slot := 3, constantValue := 0 }, { name := "CASE_INSENSITIVE_ORDER", type := (.object "java/util/Comparator"), accessFlags := 25, slot := 4, constantValue := 0 }, { name := "LATIN1", type := .byte, accessFlags := 24, slot := 5, constantValue := 0 }, { name := "UTF16", type := .byte, accessFlags := 24, slot := 6, constantValue := 0 }]
  methods := #[k7m0, k7m1, k7m2, k7m3, k7m4, k7m5, k7m6, k7m7, k7m8, k7m9, k7m10, k7m11]
  instanceTypes := #[(.array .byte), .byte, .int, .boolean]
  staticTypes := #[.long, .boolean, (.array (.object "java/io/ObjectStreamField")), .char, (.object "java/util/Comparator"), .byte, .byte]
  resolved := Array.replicate 1451 none
  statics := some 0 }

def pool8 : Array CpInfo := pool [(6, .class_ 8), (1, u "java/lang/Object"), (0, u "<init>"), (0, u "()V"), (1, .class_ 14), (1, u "java/lang/StringUTF16"), (31, u "$assertionsDisabled"), (0, u "Z"), (13, u "HI_BYTE_SHIFT"), (0, u "I"), (2, u "LO_BYTE_SHIFT"), (49, .methodref 12 116), (0, .nameAndType 117 118), (0, u "compress"), (0, u "([CI[BII)I"), (3, u "([CII)[B"), (138, u "coderFromArrayLen"), (0, u "([BI)B"), (106, .class_ 371), (1, u "java/lang/StringUTF16$LinesSpliterator"), (58, u "MAX_LENGTH"), (196, .class_ 628), (0, u "java/lang/StringUTF16$CodePointsSpliterator"), (0, .class_ 630), (0, u "java/lang/StringUTF16$CharsSpliterator")] 4

def k8m0 : Method := { name := "<init>", desc := "()V", sig := { parameters := [], returnType := none }, accessFlags := 0, code := none }
def k8c1 : Code := { maxStack := 2, maxLocals := 2, code := jdk_52_method_15_code, exceptionTable := #[], attributes := #[] }
def k8m1 : Method := { name := "coderFromArrayLen", desc := "([BI)B", sig := { parameters := [(.array .byte), .int], returnType := some .byte }, accessFlags := 8, code := some k8c1 }
def k8c2 : Code := { maxStack := 5, maxLocals := 6, code := jdk_52_method_16_code, exceptionTable := #[], attributes := #[] }
def k8m2 : Method := { name := "compress", desc := "([CII)[B", sig := { parameters := [(.array .char), .int, .int], returnType := some (.array .byte) }, accessFlags := 9, code := some k8c2 }
def k8c3 : Code := { maxStack := 3, maxLocals := 7, code := jdk_52_method_21_code, exceptionTable := #[], attributes := #[] }
def k8m3 : Method := { name := "compress", desc := "([CI[BII)I", sig := { parameters := [(.array .char), .int, (.array .byte), .int, .int], returnType := some .int }, accessFlags := 9, code := some k8c3 }
/-- java/lang/StringUTF16 -/
def k8 : Class := { plain "java/lang/StringUTF16" (some 0) with
  accessFlags := 48
  interfaces := #[]
  cf := some (fileOf pool8 12 #[.nestMembers #[627, 629, 369]] #[{ accessFlags := 0, nameIndex := 9, descriptorIndex := 10, attributes := #[] }, { accessFlags := 8, nameIndex := 261, descriptorIndex := 262, attributes := #[] }, { accessFlags := 9, nameIndex := 117, descriptorIndex := 122, attributes := #[] }, { accessFlags := 9, nameIndex := 117, descriptorIndex := 118, attributes := #[] }] 48 6 #[] #[{ accessFlags := 26, nameIndex := 61, descriptorIndex := 62, attributes := #[] }, { accessFlags := 26, nameIndex := 65, descriptorIndex := 62, attributes := #[] }, { accessFlags := 24, nameIndex := 430, descriptorIndex := 62, attributes := #[] }, { accessFlags := 4120, nameIndex := 46, descriptorIndex := 47, attributes := #[] }])
  fields := #[{ name := "HI_BYTE_SHIFT", type := .int, accessFlags := 26, slot := 0, constantValue := 0 }, { name := "LO_BYTE_SHIFT", type := .int, accessFlags := 26, slot := 1, constantValue := 0 }, { name := "MAX_LENGTH", type := .int, accessFlags := 24, slot := 2, constantValue := 0 }, { name := "$assertionsDisabled", type := .boolean, accessFlags := 4120, slot := 3, constantValue := 0 }]
  methods := #[k8m0, k8m1, k8m2, k8m3]
  instanceTypes := #[]
  staticTypes := #[.int, .int, .int, .boolean]
  resolved := Array.replicate 635 none
  statics := none }

def pool9 : Array CpInfo := pool [(1, .methodref 2 3), (0, .class_ 4), (0, .nameAndType 5 6), (0, u "java/lang/Object"), (0, u "<init>"), (0, u "()V"), (0, .class_ 8), (0, u "java/lang/Record")] 13

def k9c0 : Code := { maxStack := 1, maxLocals := 1, code := jdk_30_method_1_code, exceptionTable := #[], attributes := #[] }
def k9m0 : Method := { name := "<init>", desc := "()V", sig := { parameters := [], returnType := none }, accessFlags := 4, code := some k9c0 }
/-- java/lang/Record -/
def k9 : Class := { plain "java/lang/Record" (some 0) with
  accessFlags := 1057
  interfaces := #[]
  cf := some (fileOf pool9 7 #[] #[{ accessFlags := 4, nameIndex := 5, descriptorIndex := 6, attributes := #[] }] 1057 2 #[] #[])
  fields := #[]
  methods := #[k9m0]
  instanceTypes := #[]
  staticTypes := #[]
  resolved := Array.replicate 22 none
  statics := none }

def pool10 : Array CpInfo := pool [(1, .methodref 2 3), (0, .class_ 4), (0, .nameAndType 5 6), (0, u "java/lang/Record"), (0, u "<init>"), (0, u "()V"), (0, .string 8), (0, u "id"), (0, .methodref 10 11), (0, .class_ 12), (0, .nameAndType 13 14), (0, u "java/util/Objects"), (0, u "requireNonNull"), (0, u "(Ljava/lang/Object;Ljava/lang/String;)Ljava/lang/Object;"), (0, .string 16), (0, u "gid"), (0, .string 18), (0, u "exchange"), (0, .methodref 20 21), (0, .class_ 22), (0, .nameAndType 23 24), (0, u "com/example/gentle_commit/gentlecommit/initiator/Message"), (0, u "requireName"), (0, u "(Ljava/lang/String;Ljava/lang/String;)V"), (0, .string 26), (0, u "routing key"), (0, .methodref 28 29), (0, .class_ 30), (0, .nameAndType 31 32), (0, u "[B"), (0, u "clone"), (0, u "()Ljava/lang/Object;"), (0, .fieldref 20 34), (0, .nameAndType 8 35), (0, u "Ljava/lang/String;"), (0, .fieldref 20 37), (0, .nameAndType 16 35), (0, .fieldref 20 39), (0, .nameAndType 40 41), (0, u "reliable"), (0, u "Z"), (0, .fieldref 20 43), (0, .nameAndType 18 35), (0, .fieldref 20 45), (0, .nameAndType 46 35), (0, u "routingKey"), (0, .fieldref 20 48), (0, .nameAndType 49 30), (0, u "body"), (0, .class_ 51), (0, u "java/lang/StringBuilder"), (0, .methodref 50 3), (0, .string 40), (0, .string 55), (0, u "best-effort"), (0, .methodref 50 57), (0, .nameAndType 58 59), (0, u "append"), (0, u "(Ljava/lang/String;)Ljava/lang/StringBuilder;"), (0, .string 61), (0, u " message "), (0, .string 63), (0, u " of global transaction "), (0, .methodref 50 65), (0, .nameAndType 66 67), (0, u "toString"), (0, u "()Ljava/lang/String;"), (0, .fieldref 69 70), (0, .class_ 71), (0, .nameAndType 72 73), (0, u "java/nio/charset/StandardCharsets"), (0, u "UTF_8"), (0, u "Ljava/nio/charset/Charset;"), (0, .methodref 75 76), (0, .class_ 77), (0, .nameAndType 78 79), (0, u "java/lang/String"), (0, u "getBytes"), (0, u "(Ljava/nio/charset/Charset;)[B"), (25, u "MAX_NAME_BYTES"), (0, u "I"), (2, u "(Ljava/lang/String;Ljava/lang/String;ZLjava/lang/String;Ljava/lang/String;[B)V"), (3, u "describe")] 30

def k10c0 : Code := { maxStack := 2, maxLocals := 7, code := prog_10_method_1_code, exceptionTable := #[], attributes := #[] }
def k10m0 : Method := { name := "<init>", desc := "(Ljava/lang/String;Ljava/lang/String;ZLjava/lang/String;Ljava/lang/String;[B)V", sig := { parameters := [(.object "java/lang/String"), (.object "java/lang/String"), .boolean, (.object "java/lang/String"), (.object "java/lang/String"), (.array .byte)], returnType := none }, accessFlags := 0, code := some k10c0 }
def k10c1 : Code := { maxStack := 2, maxLocals := 1, code := prog_10_method_2_code, exceptionTable := #[], attributes := #[] }
def k10m1 : Method := { name := "describe", desc := "()Ljava/lang/String;", sig := { parameters := [], returnType := some (.object "java/lang/String") }, accessFlags := 0, code := some k10c1 }
def k10c2 : Code := { maxStack := 4, maxLocals := 2, code := prog_10_method_3_code, exceptionTable := #[], attributes := #[] }
def k10m2 : Method := { name := "requireName", desc := "(Ljava/lang/String;Ljava/lang/String;)V", sig := { parameters := [(.object "java/lang/String"), (.object "java/lang/String")], returnType := none }, accessFlags := 10, code := some k10c2 }
/-- com/example/gentle_commit/gentlecommit/initiator/Message -/
def k10 : Class := { plain "com/example/gentle_commit/gentlecommit/initiator/Message" (some 9) with
  accessFlags := 48
  interfaces := #[]
  cf := some (fileOf pool10 20 #[] #[{ accessFlags := 0, nameIndex := 5, descriptorIndex := 109, attributes := #[] }, { accessFlags := 0, nameIndex := 113, descriptorIndex := 67, attributes := #[] }, { accessFlags := 10, nameIndex := 23, descriptorIndex := 24, attributes := #[] }] 48 2 #[] #[{ accessFlags := 18, nameIndex := 8, descriptorIndex := 35, attributes := #[] }, { accessFlags := 18, nameIndex := 16, descriptorIndex := 35, attributes := #[] }, { accessFlags := 18, nameIndex := 40, descriptorIndex := 41, attributes := #[] }, { accessFlags := 18, nameIndex := 18, descriptorIndex := 35, attributes := #[] }, { accessFlags := 18, nameIndex := 46, descriptorIndex := 35, attributes := #[] }, { accessFlags := 18, nameIndex := 49, descriptorIndex := 30, attributes := #[] }, { accessFlags := 24, nameIndex := 105, descriptorIndex := 106, attributes := #[] }])
  fields := #[{ name := "id", type := (.object "java/lang/String"), accessFlags := 18, slot := 0, constantValue := 0 }, { name := "gid", type := (.object "java/lang/String"), accessFlags := 18, slot := 1, constantValue := 0 }, { name := "reliable", type := .boolean, accessFlags := 18, slot := 2, constantValue := 0 }, { name := "exchange", type := (.object "java/lang/String"), accessFlags := 18, slot := 3, constantValue := 0 }, { name := "routingKey", type := (.object "java/lang/String"), accessFlags := 18, slot := 4, constantValue := 0 }, { name := "body", type := (.array .byte), accessFlags := 18, slot := 5, constantValue := 0 }, { name := "MAX_NAME_BYTES", type := .int, accessFlags := 24, slot := 0, constantValue := 0 }]
  methods := #[k10m0, k10m1, k10m2]
  instanceTypes := #[(.object "java/lang/String"), (.object "java/lang/String"), .boolean, (.object "java/lang/String"), (.object "java/lang/String"), (.array .byte)]
  staticTypes := #[.int]
  resolved := Array.replicate 144 none
  statics := none }

def pool11 : Array CpInfo := pool [(2, .class_ 4), (1, u "java/lang/Object"), (0, u "<init>"), (0, u "()V"), (35, .class_ 44), (1, u "java/util/Objects"), (0, u "requireNonNull"), (48, u "(Ljava/lang/Object;Ljava/lang/String;)Ljava/lang/Object;")] 89

def k11m0 : Method := { name := "<init>", desc := "()V", sig := { parameters := [], returnType := none }, accessFlags := 2, code := none }
def k11c1 : Code := { maxStack := 3, maxLocals := 2, code := jdk_31_method_11_code, exceptionTable := #[], attributes := #[] }
def k11m1 : Method := { name := "requireNonNull", desc := "(Ljava/lang/Object;Ljava/lang/String;)Ljava/lang/Object;", sig := { parameters := [(.object "java/lang/Object"), (.object "java/lang/String")], returnType := some (.object "java/lang/Object") }, accessFlags := 9, code := some k11c1 }
/-- java/util/Objects -/
def k11 : Class := { plain "java/util/Objects" (some 0) with
  accessFlags := 49
  interfaces := #[]
  cf := some (fileOf pool11 42 #[] #[{ accessFlags := 2, nameIndex := 5, descriptorIndex := 6, attributes := #[] }, { accessFlags := 9, nameIndex := 45, descriptorIndex := 94, attributes := #[] }] 49 2 #[] #[])
  fields := #[]
  methods := #[k11m0, k11m1]
  instanceTypes := #[]
  staticTypes := #[]
  resolved := Array.replicate 184 none
  statics := none }

def pool12 : Array CpInfo := pool [(2, .class_ 4), (1, u "java/lang/Object"), (0, u "<init>"), (0, u "()V"), (14, .class_ 23), (1, u "java/nio/charset/StandardCharsets"), (0, u "US_ASCII"), (0, u "Ljava/nio/charset/Charset;"), (7, u "ISO_8859_1"), (7, u "UTF_8"), (5, u "UTF_16BE"), (5, u "UTF_16LE"), (5, u "UTF_16")] 8

def k12m0 : Method := { name := "<init>", desc := "()V", sig := { parameters := [], returnType := none }, accessFlags := 2, code := none }
/-- java/nio/charset/StandardCharsets -/
def k12 : Class := { plain "java/nio/charset/StandardCharsets" (some 0) with
  accessFlags := 49
  interfaces := #[]
  cf := some (fileOf pool12 21 #[] #[{ accessFlags := 2, nameIndex := 5, descriptorIndex := 6, attributes := #[] }] 49 2 #[] #[{ accessFlags := 25, nameIndex := 24, descriptorIndex := 25, attributes := #[] }, { accessFlags := 25, nameIndex := 33, descriptorIndex := 25, attributes := #[] }, { accessFlags := 25, nameIndex := 41, descriptorIndex := 25, attributes := #[] }, { accessFlags := 25, nameIndex := 47, descriptorIndex := 25, attributes := #[] }, { accessFlags := 25, nameIndex := 53, descriptorIndex := 25, attributes := #[] }, { accessFlags := 25, nameIndex := 59, descriptorIndex := 25, attributes := #[] }])
  fields := #[{ name := "US_ASCII", type := (.object "java/nio/charset/Charset"), accessFlags := 25, slot := 0, constantValue := 0 }, { name := "ISO_8859_1", type := (.object "java/nio/charset/Charset"), accessFlags := 25, slot := 1, constantValue := 0 }, { name := "UTF_8", type := (.object "java/nio/charset/Charset"), accessFlags := 25, slot := 2, constantValue := 0 }, { name := "UTF_16BE", type := (.object "java/nio/charset/Charset"), accessFlags := 25, slot := 3, constantValue := 0 }, { name := "UTF_16LE", type := (.object "java/nio/charset/Charset"), accessFlags := 25, slot := 4, constantValue := 0 }, { name := "UTF_16", type := (.object "java/nio/charset/Charset"), accessFlags := 25, slot := 5, constantValue := 0 }]
  methods := #[k12m0]
  instanceTypes := #[]
  staticTypes := #[(.object "java/nio/charset/Charset"), (.object "java/nio/charset/Charset"), (.object "java/nio/charset/Charset"), (.object "java/nio/charset/Charset"), (.object "java/nio/charset/Charset"), (.object "java/nio/charset/Charset")]
  resolved := Array.replicate 68 none
  statics := some 1 }

def pool13 : Array CpInfo := pool [(18, .class_ 20), (1, u "java/nio/charset/Charset"), (0, u "cache1"), (0, u "[Ljava/lang/Object;"), (2, u "cache2"), (0, .class_ 27), (0, u "java/lang/Object"), (0, .class_ 29), (0, u "java/nio/charset/Charset$1"), (4, .class_ 36), (1, u "java/nio/charset/Charset$ThreadTrackHolder"), (21, .class_ 59), (0, u "java/nio/charset/Charset$2"), (11, .class_ 73), (1, u "java/nio/charset/Charset$ExtendedProviderHolder"), (22, u "standardProvider"), (0, u "Ljava/nio/charset/spi/CharsetProvider;"), (29, u "name"), (7, .class_ 136), (0, u "java/nio/charset/Charset$3"), (5, u "defaultCharset"), (0, u "Ljava/nio/charset/Charset;"), (14, u "zeroAliases"), (0, u "[Ljava/lang/String;"), (29, u "Ljava/lang/String;"), (2, u "aliases"), (2, u "aliasSet"), (0, u "Ljava/util/Set;"), (82, .class_ 280), (0, u "java/lang/Comparable"), (84, .class_ 366), (0, u "java/nio/charset/Charset$ExtendedProviderHolder$1")] 3

/-- java/nio/charset/Charset -/
def k13 : Class := { plain "java/nio/charset/Charset" (some 0) with
  accessFlags := 1057
  interfaces := #[3]
  cf := some (fileOf pool13 18 #[.nestMembers #[71, 365, 34, 135, 58, 28]] #[] 1057 26 #[279] #[{ accessFlags := 26, nameIndex := 96, descriptorIndex := 97, attributes := #[] }, { accessFlags := 26, nameIndex := 158, descriptorIndex := 159, attributes := #[] }, { accessFlags := 74, nameIndex := 21, descriptorIndex := 22, attributes := #[] }, { accessFlags := 74, nameIndex := 25, descriptorIndex := 22, attributes := #[] }, { accessFlags := 10, nameIndex := 142, descriptorIndex := 143, attributes := #[] }, { accessFlags := 18, nameIndex := 127, descriptorIndex := 189, attributes := #[] }, { accessFlags := 18, nameIndex := 192, descriptorIndex := 159, attributes := #[] }, { accessFlags := 2, nameIndex := 195, descriptorIndex := 196, attributes := #[] }])
  fields := #[{ name := "standardProvider", type := (.object "java/nio/charset/spi/CharsetProvider"), accessFlags := 26, slot := 0, constantValue := 0 }, { name := "zeroAliases", type := (.array (.object "java/lang/String")), accessFlags := 26, slot := 1, constantValue := 0 }, { name := "cache1", type := (.array (.object "java/lang/Object")), accessFlags := 74, slot := 2, constantValue := 0 }, { name := "cache2", type := (.array (.object "java/lang/Object")), accessFlags := 74, slot := 3, constantValue := 0 }, { name := "defaultCharset", type := (.object "java/nio/charset/Charset"), accessFlags := 10, slot := 4, constantValue := 0 }, { name := "name", type := (.object "java/lang/String"), accessFlags := 18, slot := 0, constantValue := 0 }, { name := "aliases", type := (.array (.object "java/lang/String")), accessFlags := 18, slot := 1, constantValue := 0 }, { name := "aliasSet", type := (.object "java/util/Set"), accessFlags := 2, slot := 2, constantValue := 0 }]
  methods := #[]
  instanceTypes := #[(.object "java/lang/String"), (.array (.object "java/lang/String")), (.object "java/util/Set")]
  staticTypes := #[(.object "java/nio/charset/spi/CharsetProvider"), (.array (.object "java/lang/String")), (.array (.object "java/lang/Object")), (.array (.object "java/lang/Object")), (.object "java/nio/charset/Charset")]
  resolved := Array.replicate 370 none
  statics := none }

def pool14 : Array CpInfo := pool [(1, .class_ 2), (0, u "sun/nio/cs/HistoricallyNamedCharset"), (0, .class_ 4), (0, u "java/lang/Object")] 4

/-- sun/nio/cs/HistoricallyNamedCharset -/
def k14 : Class := { plain "sun/nio/cs/HistoricallyNamedCharset" (some 0) with
  accessFlags := 1537
  interfaces := #[]
  cf := some (fileOf pool14 1 #[] #[] 1537 3 #[] #[])
  fields := #[]
  methods := #[]
  instanceTypes := #[]
  staticTypes := #[]
  resolved := Array.replicate 9 none
  statics := none }

def pool15 : Array CpInfo := pool [(2, .class_ 4), (1, u "java/nio/charset/Charset"), (130, .class_ 136), (0, u "sun/nio/cs/Unicode"), (0, .class_ 138), (0, u "sun/nio/cs/HistoricallyNamedCharset")] 15

/-- sun/nio/cs/Unicode -/
def k15 : Class := { plain "sun/nio/cs/Unicode" (some 13) with
  accessFlags := 1056
  interfaces := #[14]
  cf := some (fileOf pool15 135 #[] #[] 1056 2 #[137] #[])
  fields := #[]
  methods := #[]
  instanceTypes := #[(.object "java/lang/String"), (.array (.object "java/lang/String")), (.object "java/util/Set")]
  staticTypes := #[]
  resolved := Array.replicate 154 none
  statics := none }

def pool16 : Array CpInfo := pool [(10, .class_ 12), (1, u "sun/nio/cs/Unicode"), (0, u "<init>"), (3, .class_ 18), (0, u "sun/nio/cs/UTF_8$Decoder"), (3, .class_ 23), (0, u "sun/nio/cs/UTF_8$Encoder"), (15, .class_ 40), (0, u "sun/nio/cs/UTF_8"), (2, u "()V"), (2, u "INSTANCE"), (0, u "Lsun/nio/cs/UTF_8;"), (8, u "JLA"), (0, u "Ljdk/internal/access/JavaLangAccess;")] 26

def k16m0 : Method := { name := "<init>", desc := "()V", sig := { parameters := [], returnType := none }, accessFlags := 1, code := none }
/-- sun/nio/cs/UTF_8 -/
def k16 : Class := { plain "sun/nio/cs/UTF_8" (some 15) with
  accessFlags := 49
  interfaces := #[]
  cf := some (fileOf pool16 39 #[.nestMembers #[22, 17]] #[{ accessFlags := 1, nameIndex := 13, descriptorIndex := 43, attributes := #[] }] 49 10 #[] #[{ accessFlags := 25, nameIndex := 46, descriptorIndex := 47, attributes := #[] }, { accessFlags := 26, nameIndex := 56, descriptorIndex := 57, attributes := #[] }])
  fields := #[{ name := "INSTANCE", type := (.object "sun/nio/cs/UTF_8"), accessFlags := 25, slot := 0, constantValue := 0 }, { name := "JLA", type := (.object "jdk/internal/access/JavaLangAccess"), accessFlags := 26, slot := 1, constantValue := 0 }]
  methods := #[k16m0]
  instanceTypes := #[(.object "java/lang/String"), (.array (.object "java/lang/String")), (.object "java/util/Set")]
  staticTypes := #[(.object "sun/nio/cs/UTF_8"), (.object "jdk/internal/access/JavaLangAccess")]
  resolved := Array.replicate 84 none
  statics := some 2 }

def pool17 : Array CpInfo := pool [(2, .class_ 4), (1, u "java/lang/Object"), (0, u "<init>"), (0, u "()V"), (0, .methodref 8 9), (0, .class_ 10), (0, .nameAndType 11 12), (0, u "java/lang/StringCoding"), (0, u "countPositives"), (0, u "([BII)I"), (11, u "hasNegatives"), (0, u "([BII)Z")] 23

def k17m0 : Method := { name := "<init>", desc := "()V", sig := { parameters := [], returnType := none }, accessFlags := 2, code := none }
def k17c1 : Code := { maxStack := 3, maxLocals := 3, code := jdk_123_method_2_code, exceptionTable := #[], attributes := #[] }
def k17m1 : Method := { name := "hasNegatives", desc := "([BII)Z", sig := { parameters := [(.array .byte), .int, .int], returnType := some .boolean }, accessFlags := 9, code := some k17c1 }
def k17c2 : Code := { maxStack := 2, maxLocals := 5, code := jdk_123_method_3_code, exceptionTable := #[], attributes := #[] }
def k17m2 : Method := { name := "countPositives", desc := "([BII)I", sig := { parameters := [(.array .byte), .int, .int], returnType := some .int }, accessFlags := 9, code := some k17c2 }
/-- java/lang/StringCoding -/
def k17 : Class := { plain "java/lang/StringCoding" (some 0) with
  accessFlags := 32
  interfaces := #[]
  cf := some (fileOf pool17 8 #[] #[{ accessFlags := 2, nameIndex := 5, descriptorIndex := 6, attributes := #[] }, { accessFlags := 9, nameIndex := 24, descriptorIndex := 25, attributes := #[] }, { accessFlags := 9, nameIndex := 11, descriptorIndex := 12, attributes := #[] }] 32 2 #[] #[])
  fields := #[]
  methods := #[k17m0, k17m1, k17m2]
  instanceTypes := #[]
  staticTypes := #[]
  resolved := Array.replicate 49 none
  statics := none }

def pool18 : Array CpInfo := pool [(1, .class_ 2), (0, u "java/lang/Cloneable"), (0, .class_ 4), (0, u "java/lang/Object")] 2

/-- java/lang/Cloneable -/
def k18 : Class := { plain "java/lang/Cloneable" (some 0) with
  accessFlags := 1537
  interfaces := #[]
  cf := some (fileOf pool18 1 #[] #[] 1537 3 #[] #[])
  fields := #[]
  methods := #[]
  instanceTypes := #[]
  staticTypes := #[]
  resolved := Array.replicate 7 none
  statics := none }

def pool19 : Array CpInfo := pool [(1, .class_ 2), (0, u "java/lang/Appendable"), (0, .class_ 4), (0, u "java/lang/Object")] 9

/-- java/lang/Appendable -/
def k19 : Class := { plain "java/lang/Appendable" (some 0) with
  accessFlags := 1537
  interfaces := #[]
  cf := some (fileOf pool19 1 #[] #[] 1537 3 #[] #[])
  fields := #[]
  methods := #[]
  instanceTypes := #[]
  staticTypes := #[]
  resolved := Array.replicate 14 none
  statics := none }

def pool20 : Array CpInfo := pool [(1, .class_ 2), (0, u "java/lang/String"), (0, .methodref 4 5), (0, .class_ 6), (0, .nameAndType 7 8), (0, u "java/lang/Object"), (0, u "<init>"), (0, u "()V"), (1, .class_ 12), (1, u "java/lang/AbstractStringBuilder"), (0, u "EMPTYVALUE"), (0, u "[B"), (0, .fieldref 10 16), (0, .nameAndType 17 14), (0, u "value"), (0, .fieldref 1 19), (0, .nameAndType 20 21), (0, u "COMPACT_STRINGS"), (0, u "Z"), (0, .fieldref 10 23), (0, .nameAndType 24 25), (0, u "coder"), (0, u "B"), (6, .methodref 1 33), (0, .nameAndType 34 35), (0, u "length"), (0, u "()I"), (3, .integer 2147483647), (0, .methodref 1 41), (0, .nameAndType 24 42), (0, u "()B"), (2, u "append"), (0, u "(Ljava/lang/String;)Ljava/lang/AbstractStringBuilder;"), (1, .class_ 49), (0, u "java/lang/CharSequence"), (19, u "(Ljava/lang/String;)V"), (5, u "maybeLatin1"), (3, .fieldref 10 80), (0, .nameAndType 81 82), (0, u "count"), (0, u "I"), (2, u "isLatin1"), (0, u "()Z"), (13, .methodref 10 101), (0, .nameAndType 102 103), (0, u "ensureCapacityInternal"), (0, u "(I)V"), (0, .methodref 10 105), (0, .nameAndType 106 107), (0, u "newCapacity"), (0, u "(I)I"), (0, .methodref 109 110), (0, .class_ 111), (0, .nameAndType 112 113), (0, u "java/util/Arrays"), (0, u "copyOf"), (0, u "([BI)[B"), (0, .methodref 115 116), (0, .class_ 117), (0, .nameAndType 118 119), (0, u "jdk/internal/util/ArraysSupport"), (0, u "newLength"), (0, u "(III)I"), (88, .methodref 10 209), (0, .nameAndType 210 211), (0, u "putStringAt"), (0, u "(ILjava/lang/String;)V"), (5, u "inflateIfNeededFor"), (2, .nameAndType 221 222), (0, u "getBytes"), (0, u "([BIB)V"), (174, .methodref 10 398), (0, .nameAndType 217 69), (0, .methodref 1 220), (3, u "()[B"), (40, .class_ 445), (0, u "java/lang/Appendable"), (106, u "getValue")] 56

def k20m0 : Method := { name := "<init>", desc := "()V", sig := { parameters := [], returnType := none }, accessFlags := 0, code := none }
def k20c1 : Code := { maxStack := 2, maxLocals := 2, code := jdk_68_method_2_code, exceptionTable := #[], attributes := #[] }
def k20m1 : Method := { name := "<init>", desc := "(I)V", sig := { parameters := [.int], returnType := none }, accessFlags := 0, code := some k20c1 }
def k20c2 : Code := { maxStack := 1, maxLocals := 1, code := jdk_68_method_6_code, exceptionTable := #[], attributes := #[] }
def k20m2 : Method := { name := "length", desc := "()I", sig := { parameters := [], returnType := some .int }, accessFlags := 1, code := some k20c2 }
def k20c3 : Code := { maxStack := 4, maxLocals := 3, code := jdk_68_method_9_code, exceptionTable := #[], attributes := #[] }
def k20m3 : Method := { name := "ensureCapacityInternal", desc := "(I)V", sig := { parameters := [.int], returnType := none }, accessFlags := 2, code := some k20c3 }
def k20c4 : Code := { maxStack := 5, maxLocals := 6, code := jdk_68_method_10_code, exceptionTable := #[], attributes := #[] }
def k20m4 : Method := { name := "newCapacity", desc := "(I)I", sig := { parameters := [.int], returnType := some .int }, accessFlags := 2, code := some k20c4 }
def k20c5 : Code := { maxStack := 3, maxLocals := 3, code := jdk_68_method_22_code, exceptionTable := #[], attributes := #[] }
def k20m5 : Method := { name := "append", desc := "(Ljava/lang/String;)Ljava/lang/AbstractStringBuilder;", sig := { parameters := [(.object "java/lang/String")], returnType := some (.object "java/lang/AbstractStringBuilder") }, accessFlags := 1, code := some k20c5 }
def k20c6 : Code := { maxStack := 1, maxLocals := 1, code := jdk_68_method_64_code, exceptionTable := #[], attributes := #[] }
def k20m6 : Method := { name := "getValue", desc := "()[B", sig := { parameters := [], returnType := some (.array .byte) }, accessFlags := 16, code := some k20c6 }
def k20c7 : Code := { maxStack := 1, maxLocals := 1, code := jdk_68_method_68_code, exceptionTable := #[], attributes := #[] }
def k20m7 : Method := { name := "isLatin1", desc := "()Z", sig := { parameters := [], returnType := some .boolean }, accessFlags := 16, code := some k20c7 }
def k20c8 : Code := { maxStack := 2, maxLocals := 2, code := jdk_68_method_71_code, exceptionTable := #[], attributes := #[] }
def k20m8 : Method := { name := "inflateIfNeededFor", desc := "(Ljava/lang/String;)V", sig := { parameters := [(.object "java/lang/String")], returnType := none }, accessFlags := 2, code := some k20c8 }
def k20c9 : Code := { maxStack := 4, maxLocals := 3, code := jdk_68_method_73_code, exceptionTable := #[], attributes := #[] }
def k20m9 : Method := { name := "putStringAt", desc := "(ILjava/lang/String;)V", sig := { parameters := [.int, (.object "java/lang/String")], returnType := none }, accessFlags := 2, code := some k20c9 }
/-- java/lang/AbstractStringBuilder -/
def k20 : Class := { plain "java/lang/AbstractStringBuilder" (some 0) with
  accessFlags := 1056
  interfaces := #[19, 4]
  cf := some (fileOf pool20 10 #[] #[{ accessFlags := 0, nameIndex := 7, descriptorIndex := 8, attributes := #[] }, { accessFlags := 0, nameIndex := 7, descriptorIndex := 103, attributes := #[] }, { accessFlags := 1, nameIndex := 34, descriptorIndex := 35, attributes := #[] }, { accessFlags := 2, nameIndex := 102, descriptorIndex := 103, attributes := #[] }, { accessFlags := 2, nameIndex := 106, descriptorIndex := 107, attributes := #[] }, { accessFlags := 1, nameIndex := 45, descriptorIndex := 46, attributes := #[] }, { accessFlags := 16, nameIndex := 552, descriptorIndex := 403, attributes := #[] }, { accessFlags := 16, nameIndex := 85, descriptorIndex := 86, attributes := #[] }, { accessFlags := 2, nameIndex := 217, descriptorIndex := 69, attributes := #[] }, { accessFlags := 2, nameIndex := 210, descriptorIndex := 211, attributes := #[] }] 1056 4 #[444, 48] #[{ accessFlags := 0, nameIndex := 17, descriptorIndex := 14, attributes := #[] }, { accessFlags := 0, nameIndex := 24, descriptorIndex := 25, attributes := #[] }, { accessFlags := 0, nameIndex := 75, descriptorIndex := 21, attributes := #[] }, { accessFlags := 0, nameIndex := 81, descriptorIndex := 82, attributes := #[] }, { accessFlags := 26, nameIndex := 13, descriptorIndex := 14, attributes := #[] }])
  fields := #[{ name := "value", type := (.array .byte), accessFlags := 0, slot := 0, constantValue := 0 }, { name := "coder", type := .byte, accessFlags := 0, slot := 1, constantValue := 0 }, { name := "maybeLatin1", type := .boolean, accessFlags := 0, slot := 2, constantValue := 0 }, { name := "count", type := .int, accessFlags := 0, slot := 3, constantValue := 0 }, { name := "EMPTYVALUE", type := (.array .byte), accessFlags := 26, slot := 0, constantValue := 0 }]
  methods := #[k20m0, k20m1, k20m2, k20m3, k20m4, k20m5, k20m6, k20m7, k20m8, k20m9]
  instanceTypes := #[(.array .byte), .byte, .boolean, .int]
  staticTypes := #[(.array .byte)]
  resolved := Array.replicate 609 none
  statics := none }

def pool21 : Array CpInfo := pool [(1, .methodref 2 3), (0, .class_ 4), (0, .nameAndType 5 6), (0, u "java/lang/AbstractStringBuilder"), (0, u "<init>"), (0, u "(I)V"), (11, .class_ 20), (1, u "java/lang/String"), (3, .class_ 26), (1, u "java/lang/StringBuilder"), (0, u "append"), (0, u "(Ljava/lang/String;)Ljava/lang/StringBuilder;"), (0, .methodref 2 30), (0, .nameAndType 27 31), (0, u "(Ljava/lang/String;)Ljava/lang/AbstractStringBuilder;"), (105, .methodref 18 138), (0, .nameAndType 5 139), (0, u "(Ljava/lang/StringBuilder;)V"), (5, u "()V"), (10, u "()I"), (186, .methodref 2 344), (0, .nameAndType 345 156), (0, u "length"), (3, .class_ 350), (0, u "java/lang/Appendable"), (0, .class_ 352), (0, u "java/io/Serializable"), (0, .class_ 354), (0, u "java/lang/Comparable"), (0, .class_ 356), (0, u "java/lang/CharSequence"), (0, u "serialVersionUID"), (0, u "J"), (40, u "toString"), (0, u "()Ljava/lang/String;")] 21

def k21c0 : Code := { maxStack := 2, maxLocals := 1, code := jdk_67_method_1_code, exceptionTable := #[], attributes := #[] }
def k21m0 : Method := { name := "<init>", desc := "()V", sig := { parameters := [], returnType := none }, accessFlags := 1, code := some k21c0 }
def k21c1 : Code := { maxStack := 2, maxLocals := 2, code := jdk_67_method_7_code, exceptionTable := #[], attributes := #[] }
def k21m1 : Method := { name := "append", desc := "(Ljava/lang/String;)Ljava/lang/StringBuilder;", sig := { parameters := [(.object "java/lang/String")], returnType := some (.object "java/lang/StringBuilder") }, accessFlags := 1, code := some k21c1 }
def k21c2 : Code := { maxStack := 3, maxLocals := 1, code := jdk_67_method_42_code, exceptionTable := #[], attributes := #[] }
def k21m2 : Method := { name := "toString", desc := "()Ljava/lang/String;", sig := { parameters := [], returnType := some (.object "java/lang/String") }, accessFlags := 1, code := some k21c2 }
def k21c3 : Code := { maxStack := 1, maxLocals := 1, code := jdk_67_method_93_code, exceptionTable := #[], attributes := #[] }
def k21m3 : Method := { name := "length", desc := "()I", sig := { parameters := [], returnType := some .int }, accessFlags := 4161, code := some k21c3 }
/-- java/lang/StringBuilder -/
def k21 : Class := { plain "java/lang/StringBuilder" (some 20) with
  accessFlags := 49
  interfaces := #[19, 2, 3, 4]
  cf := some (fileOf pool21 24 #[] #[{ accessFlags := 1, nameIndex := 5, descriptorIndex := 145, attributes := #[] }, { accessFlags := 1, nameIndex := 27, descriptorIndex := 28, attributes := #[] }, { accessFlags := 1, nameIndex := 399, descriptorIndex := 400, attributes := #[] }, { accessFlags := 4161, nameIndex := 345, descriptorIndex := 156, attributes := #[] }] 49 2 #[349, 351, 353, 355] #[{ accessFlags := 24, nameIndex := 357, descriptorIndex := 358, attributes := #[] }])
  fields := #[{ name := "serialVersionUID", type := .long, accessFlags := 24, slot := 0, constantValue := 0 }]
  methods := #[k21m0, k21m1, k21m2, k21m3]
  instanceTypes := #[(.array .byte), .byte, .boolean, .int]
  staticTypes := #[.long]
  resolved := Array.replicate 422 none
  statics := none }

def pool22 : Array CpInfo := pool [(2, .class_ 4), (1, u "java/lang/Object"), (0, u "<init>"), (0, u "()V"), (1, .class_ 10), (1, u "java/lang/System"), (0, u "allowSecurityManager"), (0, u "I"), (16, u "cons"), (0, u "Ljava/io/Console;"), (77, .class_ 110), (1, u "java/lang/System$CallersHolder"), (43, u "initialErrStream"), (0, u "Ljava/io/PrintStream;"), (19, u "security"), (0, u "Ljava/lang/SecurityManager;"), (31, .class_ 209), (0, u "java/lang/System$1"), (7, u "props"), (0, u "Ljava/util/Properties;"), (2, u "lineSeparator"), (0, u "Ljava/lang/String;"), (96, .class_ 321), (1, u "java/lang/System$LoggerFinder"), (5, .class_ 328), (0, u "java/lang/System$Logger"), (67, u "err"), (2, u "out"), (91, u "notSupportedJnuEncoding"), (15, u "in"), (17, u "initialIn"), (0, u "Ljava/io/InputStream;"), (35, u "bootLayer"), (0, u "Ljava/lang/ModuleLayer;"), (99, .class_ 664), (0, u "java/lang/System$2"), (9, u "NEVER"), (2, u "MAYBE"), (49, u "arraycopy"), (0, u "(Ljava/lang/Object;ILjava/lang/Object;II)V"), (72, .class_ 802), (0, u "java/lang/System$Logger$Level")] 31

def k22m0 : Method := { name := "<init>", desc := "()V", sig := { parameters := [], returnType := none }, accessFlags := 2, code := none }
def k22m1 : Method := { name := "arraycopy", desc := "(Ljava/lang/Object;ILjava/lang/Object;II)V", sig := { parameters := [(.object "java/lang/Object"), .int, (.object "java/lang/Object"), .int, .int], returnType := none }, accessFlags := 265, code := none }
/-- java/lang/System -/
def k22 : Class := { plain "java/lang/System" (some 0) with
  accessFlags := 49
  interfaces := #[]
  cf := some (fileOf pool22 8 #[.nestMembers #[319, 327, 801, 108, 663, 208]] #[{ accessFlags := 2, nameIndex := 5, descriptorIndex := 6, attributes := #[] }, { accessFlags := 265, nameIndex := 727, descriptorIndex := 728, attributes := #[] }] 49 2 #[] #[{ accessFlags := 25, nameIndex := 507, descriptorIndex := 526, attributes := #[] }, { accessFlags := 25, nameIndex := 399, descriptorIndex := 155, attributes := #[] }, { accessFlags := 25, nameIndex := 396, descriptorIndex := 155, attributes := #[] }, { accessFlags := 10, nameIndex := 525, descriptorIndex := 526, attributes := #[] }, { accessFlags := 26, nameIndex := 674, descriptorIndex := 12, attributes := #[] }, { accessFlags := 26, nameIndex := 677, descriptorIndex := 12, attributes := #[] }, { accessFlags := 10, nameIndex := 11, descriptorIndex := 12, attributes := #[] }, { accessFlags := 74, nameIndex := 175, descriptorIndex := 176, attributes := #[] }, { accessFlags := 10, nameIndex := 491, descriptorIndex := 222, attributes := #[] }, { accessFlags := 74, nameIndex := 29, descriptorIndex := 30, attributes := #[] }, { accessFlags := 74, nameIndex := 154, descriptorIndex := 155, attributes := #[] }, { accessFlags := 10, nameIndex := 217, descriptorIndex := 218, attributes := #[] }, { accessFlags := 10, nameIndex := 221, descriptorIndex := 222, attributes := #[] }, { accessFlags := 8, nameIndex := 562, descriptorIndex := 563, attributes := #[] }])
  fields := #[{ name := "in", type := (.object "java/io/InputStream"), accessFlags := 25, slot := 0, constantValue := 0 }, { name := "out", type := (.object "java/io/PrintStream"), accessFlags := 25, slot := 1, constantValue := 0 }, { name := "err", type := (.object "java/io/PrintStream"), accessFlags := 25, slot := 2, constantValue := 0 }, { name := "initialIn", type := (.object "java/io/InputStream"), accessFlags := 10, slot := 3, constantValue := 0 }, { name := "NEVER", type := .int, accessFlags := 26, slot := 4, constantValue := 0 }, { name := "MAYBE", type := .int, accessFlags := 26, slot := 5, constantValue := 0 }, { name := "allowSecurityManager", type := .int, accessFlags := 10, slot := 6, constantValue := 0 }, { name := "security", type := (.object "java/lang/SecurityManager"), accessFlags := 74, slot := 7, constantValue := 0 }, { name := "notSupportedJnuEncoding", type := (.object "java/lang/String"), accessFlags := 10, slot := 8, constantValue := 0 }, { name := "cons", type := (.object "java/io/Console"), accessFlags := 74, slot := 9, constantValue := 0 }, { name := "initialErrStream", type := (.object "java/io/PrintStream"), accessFlags := 74, slot := 10, constantValue := 0 }, { name := "props", type := (.object "java/util/Properties"), accessFlags := 10, slot := 11, constantValue := 0 }, { name := "lineSeparator", type := (.object "java/lang/String"), accessFlags := 10, slot := 12, constantValue := 0 }, { name := "bootLayer", type := (.object "java/lang/ModuleLayer"), accessFlags := 8, slot := 13, constantValue := 0 }]
  methods := #[k22m0, k22m1]
  instanceTypes := #[]
  staticTypes := #[(.object "java/io/InputStream"), (.object "java/io/PrintStream"), (.object "java/io/PrintStream"), (.object "java/io/InputStream"), .int, .int, .int, (.object "java/lang/SecurityManager"), (.object "java/lang/String"), (.object "java/io/Console"), (.object "java/io/PrintStream"), (.object "java/util/Properties"), (.object "java/lang/String"), (.object "java/lang/ModuleLayer")]
  resolved := Array.replicate 834 none
  statics := none }

def pool23 : Array CpInfo := pool [(9, u "<init>"), (6, .class_ 18), (1, u "java/lang/Object"), (0, u "()V"), (1, .class_ 23), (1, u "jdk/internal/util/ArraysSupport"), (0, u "LOG2_ARRAY_LONG_INDEX_SCALE"), (0, u "I"), (2, u "U"), (0, u "Ljdk/internal/misc/Unsafe;"), (8, u "BIG_ENDIAN"), (0, u "Z"), (8, u "LOG2_BYTE_BIT_SIZE"), (4, u "LOG2_ARRAY_INT_INDEX_SCALE"), (54, u "JLA"), (0, u "Ljdk/internal/access/JavaLangAccess;"), (11, u "LOG2_ARRAY_BOOLEAN_INDEX_SCALE"), (9, u "LOG2_ARRAY_BYTE_INDEX_SCALE"), (5, u "LOG2_ARRAY_CHAR_INDEX_SCALE"), (5, u "LOG2_ARRAY_SHORT_INDEX_SCALE"), (18, u "LOG2_ARRAY_FLOAT_INDEX_SCALE"), (24, u "LOG2_ARRAY_DOUBLE_INDEX_SCALE"), (6, .methodref 195 196), (0, .class_ 197), (0, .nameAndType 198 199), (0, u "java/lang/Math"), (0, u "max"), (0, u "(II)I"), (0, .integer 2147483639), (76, u "T_BOOLEAN"), (2, u "T_CHAR"), (1, u "T_FLOAT"), (1, u "T_DOUBLE"), (1, u "T_BYTE"), (1, u "T_SHORT"), (1, u "T_INT"), (1, u "T_LONG"), (1, u "SOFT_MAX_ARRAY_LENGTH"), (56, u "newLength"), (0, u "(III)I")] 25

def k23m0 : Method := { name := "<init>", desc := "()V", sig := { parameters := [], returnType := none }, accessFlags := 2, code := none }
def k23c1 : Code := { maxStack := 3, maxLocals := 4, code := jdk_48_method_27_code, exceptionTable := #[], attributes := #[] }
def k23m1 : Method := { name := "newLength", desc := "(III)I", sig := { parameters := [.int, .int, .int], returnType := some .int }, accessFlags := 9, code := some k23c1 }
/-- jdk/internal/util/ArraysSupport -/
def k23 : Class := { plain "jdk/internal/util/ArraysSupport" (some 0) with
  accessFlags := 33
  interfaces := #[]
  cf := some (fileOf pool23 21 #[] #[{ accessFlags := 2, nameIndex := 9, descriptorIndex := 19, attributes := #[] }, { accessFlags := 9, nameIndex := 351, descriptorIndex := 352, attributes := #[] }] 33 16 #[] #[{ accessFlags := 24, nameIndex := 28, descriptorIndex := 29, attributes := #[] }, { accessFlags := 26, nameIndex := 38, descriptorIndex := 39, attributes := #[] }, { accessFlags := 25, nameIndex := 121, descriptorIndex := 25, attributes := #[] }, { accessFlags := 25, nameIndex := 131, descriptorIndex := 25, attributes := #[] }, { accessFlags := 25, nameIndex := 137, descriptorIndex := 25, attributes := #[] }, { accessFlags := 25, nameIndex := 143, descriptorIndex := 25, attributes := #[] }, { accessFlags := 25, nameIndex := 53, descriptorIndex := 25, attributes := #[] }, { accessFlags := 25, nameIndex := 24, descriptorIndex := 25, attributes := #[] }, { accessFlags := 25, nameIndex := 162, descriptorIndex := 25, attributes := #[] }, { accessFlags := 25, nameIndex := 187, descriptorIndex := 25, attributes := #[] }, { accessFlags := 26, nameIndex := 48, descriptorIndex := 25, attributes := #[] }, { accessFlags := 25, nameIndex := 277, descriptorIndex := 25, attributes := #[] }, { accessFlags := 25, nameIndex := 280, descriptorIndex := 25, attributes := #[] }, { accessFlags := 25, nameIndex := 282, descriptorIndex := 25, attributes := #[] }, { accessFlags := 25, nameIndex := 284, descriptorIndex := 25, attributes := #[] }, { accessFlags := 25, nameIndex := 286, descriptorIndex := 25, attributes := #[] }, { accessFlags := 25, nameIndex := 288, descriptorIndex := 25, attributes := #[] }, { accessFlags := 25, nameIndex := 290, descriptorIndex := 25, attributes := #[] }, { accessFlags := 25, nameIndex := 292, descriptorIndex := 25, attributes := #[] }, { accessFlags := 26, nameIndex := 108, descriptorIndex := 109, attributes := #[] }, { accessFlags := 25, nameIndex := 294, descriptorIndex := 25, attributes := #[] }])
  fields := #[{ name := "U", type := (.object "jdk/internal/misc/Unsafe"), accessFlags := 24, slot := 0, constantValue := 0 }, { name := "BIG_ENDIAN", type := .boolean, accessFlags := 26, slot := 1, constantValue := 0 }, { name := "LOG2_ARRAY_BOOLEAN_INDEX_SCALE", type := .int, accessFlags := 25, slot := 2, constantValue := 0 }, { name := "LOG2_ARRAY_BYTE_INDEX_SCALE", type := .int, accessFlags := 25, slot := 3, constantValue := 0 }, { name := "LOG2_ARRAY_CHAR_INDEX_SCALE", type := .int, accessFlags := 25, slot := 4, constantValue := 0 }, { name := "LOG2_ARRAY_SHORT_INDEX_SCALE", type := .int, accessFlags := 25, slot := 5, constantValue := 0 }, { name := "LOG2_ARRAY_INT_INDEX_SCALE", type := .int, accessFlags := 25, slot := 6, constantValue := 0 }, { name := "LOG2_ARRAY_LONG_INDEX_SCALE", type := .int, accessFlags := 25, slot := 7, constantValue := 0 }, { name := "LOG2_ARRAY_FLOAT_INDEX_SCALE", type := .int, accessFlags := 25, slot := 8, constantValue := 0 }, { name := "LOG2_ARRAY_DOUBLE_INDEX_SCALE", type := .int, accessFlags := 25, slot := 9, constantValue := 0 }, { name := "LOG2_BYTE_BIT_SIZE", type := .int, accessFlags := 26, slot := 10, constantValue := 0 }, { name := "T_BOOLEAN", type := .int, accessFlags := 25, slot := 11, constantValue := 0 }, { name := "T_CHAR", type := .int, accessFlags := 25, slot := 12, constantValue := 0 }, { name := "T_FLOAT", type := .int, accessFlags := 25, slot := 13, constantValue := 0 }, { name := "T_DOUBLE", type := .int, accessFlags := 25, slot := 14, constantValue := 0 }, { name := "T_BYTE", type := .int, accessFlags := 25, slot := 15, constantValue := 0 }, { name := "T_SHORT", type := .int, accessFlags := 25, slot := 16, constantValue := 0 }, { name := "T_INT", type := .int, accessFlags := 25, slot := 17, constantValue := 0 }, { name := "T_LONG", type := .int, accessFlags := 25, slot := 18, constantValue := 0 }, { name := "JLA", type := (.object "jdk/internal/access/JavaLangAccess"), accessFlags := 26, slot := 19, constantValue := 0 }, { name := "SOFT_MAX_ARRAY_LENGTH", type := .int, accessFlags := 25, slot := 20, constantValue := 0 }]
  methods := #[k23m0, k23m1]
  instanceTypes := #[]
  staticTypes := #[(.object "jdk/internal/misc/Unsafe"), .boolean, .int, .int, .int, .int, .int, .int, .int, .int, .int, .int, .int, .int, .int, .int, .int, .int, .int, (.object "jdk/internal/access/JavaLangAccess"), .int]
  resolved := Array.replicate 378 none
  statics := none }

def pool24 : Array CpInfo := pool [(1, .class_ 2), (0, u "java/lang/Math"), (1, .class_ 6), (1, u "java/lang/Object"), (0, u "<init>"), (0, u "()V"), (89, .class_ 100), (1, u "java/lang/Math$RandomNumberGeneratorHolder"), (71, u "negativeZeroFloatBits"), (0, u "J"), (2, u "negativeZeroDoubleBits"), (21, u "max"), (2, u "min"), (43, u "$assertionsDisabled"), (0, u "Z"), (88, u "(II)I"), (2, u "twoToTheDoubleScaleDown"), (0, u "D"), (4, u "twoToTheDoubleScaleUp"), (9, u "E"), (3, u "PI"), (2, u "TAU"), (2, u "DEGREES_TO_RADIANS"), (0, u "RADIANS_TO_DEGREES")] 94

def k24m0 : Method := { name := "<init>", desc := "()V", sig := { parameters := [], returnType := none }, accessFlags := 2, code := none }
def k24c1 : Code := { maxStack := 2, maxLocals := 2, code := jdk_29_method_65_code, exceptionTable := #[], attributes := #[] }
def k24m1 : Method := { name := "max", desc := "(II)I", sig := { parameters := [.int, .int], returnType := some .int }, accessFlags := 9, code := some k24c1 }
def k24c2 : Code := { maxStack := 2, maxLocals := 2, code := jdk_29_method_69_code, exceptionTable := #[], attributes := #[] }
def k24m2 : Method := { name := "min", desc := "(II)I", sig := { parameters := [.int, .int], returnType := some .int }, accessFlags := 9, code := some k24c2 }
/-- java/lang/Math -/
def k24 : Class := { plain "java/lang/Math" (some 0) with
  accessFlags := 49
  interfaces := #[]
  cf := some (fileOf pool24 1 #[.nestMembers #[98]] #[{ accessFlags := 2, nameIndex := 7, descriptorIndex := 8, attributes := #[] }, { accessFlags := 9, nameIndex := 198, descriptorIndex := 335, attributes := #[] }, { accessFlags := 9, nameIndex := 201, descriptorIndex := 335, attributes := #[] }] 49 4 #[] #[{ accessFlags := 25, nameIndex := 354, descriptorIndex := 339, attributes := #[] }, { accessFlags := 25, nameIndex := 358, descriptorIndex := 339, attributes := #[] }, { accessFlags := 25, nameIndex := 361, descriptorIndex := 339, attributes := #[] }, { accessFlags := 26, nameIndex := 364, descriptorIndex := 339, attributes := #[] }, { accessFlags := 26, nameIndex := 365, descriptorIndex := 339, attributes := #[] }, { accessFlags := 26, nameIndex := 172, descriptorIndex := 173, attributes := #[] }, { accessFlags := 26, nameIndex := 176, descriptorIndex := 173, attributes := #[] }, { accessFlags := 8, nameIndex := 344, descriptorIndex := 339, attributes := #[] }, { accessFlags := 8, nameIndex := 338, descriptorIndex := 339, attributes := #[] }, { accessFlags := 4120, nameIndex := 245, descriptorIndex := 246, attributes := #[] }])
  fields := #[{ name := "E", type := .double, accessFlags := 25, slot := 0, constantValue := 0 }, { name := "PI", type := .double, accessFlags := 25, slot := 1, constantValue := 0 }, { name := "TAU", type := .double, accessFlags := 25, slot := 2, constantValue := 0 }, { name := "DEGREES_TO_RADIANS", type := .double, accessFlags := 26, slot := 3, constantValue := 0 }, { name := "RADIANS_TO_DEGREES", type := .double, accessFlags := 26, slot := 4, constantValue := 0 }, { name := "negativeZeroFloatBits", type := .long, accessFlags := 26, slot := 5, constantValue := 0 }, { name := "negativeZeroDoubleBits", type := .long, accessFlags := 26, slot := 6, constantValue := 0 }, { name := "twoToTheDoubleScaleUp", type := .double, accessFlags := 8, slot := 7, constantValue := 0 }, { name := "twoToTheDoubleScaleDown", type := .double, accessFlags := 8, slot := 8, constantValue := 0 }, { name := "$assertionsDisabled", type := .boolean, accessFlags := 4120, slot := 9, constantValue := 0 }]
  methods := #[k24m0, k24m1, k24m2]
  instanceTypes := #[]
  staticTypes := #[.double, .double, .double, .double, .double, .long, .long, .double, .double, .boolean]
  resolved := Array.replicate 460 none
  statics := none }

def pool25 : Array CpInfo := pool [(2, .class_ 4), (1, u "java/lang/Object"), (0, u "<init>"), (0, u "()V"), (7, .class_ 16), (1, u "java/util/Arrays"), (57, .class_ 76), (1, u "java/util/Arrays$NaturalOrder"), (36, .class_ 115), (1, u "java/util/Arrays$LegacyMergeSort"), (1, u "Z"), (21, u "copyOfRange"), (10, .methodref 151 152), (0, .class_ 153), (0, .nameAndType 154 155), (0, u "java/lang/System"), (0, u "arraycopy"), (0, u "(Ljava/lang/Object;ILjava/lang/Object;II)V"), (146, u "copyOf"), (1, .methodref 305 306), (0, .class_ 307), (0, .nameAndType 308 309), (0, u "java/lang/Math"), (0, u "min"), (0, u "(II)I"), (29, .methodref 14 340), (0, .nameAndType 341 342), (0, u "copyOfRangeByte"), (0, u "([BII)[B"), (0, .methodref 14 344), (0, .nameAndType 345 346), (0, u "checkLength"), (0, u "(II)V"), (28, .class_ 376), (0, u "java/util/Arrays$ArrayList"), (68, u "$assertionsDisabled"), (269, u "MIN_ARRAY_SORT_GRAN"), (0, u "I"), (2, u "INSERTIONSORT_THRESHOLD"), (149, u "([BI)[B"), (105, .class_ 976), (0, u "java/util/Arrays$ArrayItr")] 52

def k25m0 : Method := { name := "<init>", desc := "()V", sig := { parameters := [], returnType := none }, accessFlags := 2, code := none }
def k25c1 : Code := { maxStack := 6, maxLocals := 3, code := jdk_65_method_121_code, exceptionTable := #[], attributes := #[] }
def k25m1 : Method := { name := "copyOf", desc := "([BI)[B", sig := { parameters := [(.array .byte), .int], returnType := some (.array .byte) }, accessFlags := 9, code := some k25c1 }
def k25c2 : Code := { maxStack := 4, maxLocals := 2, code := jdk_65_method_131_code, exceptionTable := #[], attributes := #[] }
def k25m2 : Method := { name := "checkLength", desc := "(II)V", sig := { parameters := [.int, .int], returnType := none }, accessFlags := 10, code := some k25c2 }
def k25c3 : Code := { maxStack := 3, maxLocals := 3, code := jdk_65_method_132_code, exceptionTable := #[], attributes := #[] }
def k25m3 : Method := { name := "copyOfRange", desc := "([BII)[B", sig := { parameters := [(.array .byte), .int, .int], returnType := some (.array .byte) }, accessFlags := 9, code := some k25c3 }
def k25c4 : Code := { maxStack := 6, maxLocals := 5, code := jdk_65_method_133_code, exceptionTable := #[], attributes := #[] }
def k25m4 : Method := { name := "copyOfRangeByte", desc := "([BII)[B", sig := { parameters := [(.array .byte), .int, .int], returnType := some (.array .byte) }, accessFlags := 10, code := some k25c4 }
/-- java/util/Arrays -/
def k25 : Class := { plain "java/util/Arrays" (some 0) with
  accessFlags := 49
  interfaces := #[]
  cf := some (fileOf pool25 14 #[.nestMembers #[975, 375, 113, 74]] #[{ accessFlags := 2, nameIndex := 5, descriptorIndex := 6, attributes := #[] }, { accessFlags := 9, nameIndex := 302, descriptorIndex := 869, attributes := #[] }, { accessFlags := 10, nameIndex := 345, descriptorIndex := 346, attributes := #[] }, { accessFlags := 9, nameIndex := 139, descriptorIndex := 342, attributes := #[] }, { accessFlags := 10, nameIndex := 341, descriptorIndex := 342, attributes := #[] }] 49 2 #[] #[{ accessFlags := 26, nameIndex := 715, descriptorIndex := 716, attributes := #[] }, { accessFlags := 26, nameIndex := 719, descriptorIndex := 716, attributes := #[] }, { accessFlags := 4120, nameIndex := 445, descriptorIndex := 117, attributes := #[] }])
  fields := #[{ name := "MIN_ARRAY_SORT_GRAN", type := .int, accessFlags := 26, slot := 0, constantValue := 0 }, { name := "INSERTIONSORT_THRESHOLD", type := .int, accessFlags := 26, slot := 1, constantValue := 0 }, { name := "$assertionsDisabled", type := .boolean, accessFlags := 4120, slot := 2, constantValue := 0 }]
  methods := #[k25m0, k25m1, k25m2, k25m3, k25m4]
  instanceTypes := #[]
  staticTypes := #[.int, .int, .boolean]
  resolved := Array.replicate 1029 none
  statics := none }

def pool26 : Array CpInfo := pool [(4, .class_ 6), (1, u "java/lang/Object"), (0, u "<init>"), (0, u "()V"), (5, .class_ 16), (1, u "java/lang/StringLatin1"), (104, u "$assertionsDisabled"), (0, u "Z"), (98, .class_ 223), (1, u "java/lang/StringLatin1$LinesSpliterator"), (57, u "equals"), (0, u "([B[B)Z"), (107, .class_ 391), (0, u "java/lang/StringLatin1$CharsSpliterator")] 3

def k26m0 : Method := { name := "<init>", desc := "()V", sig := { parameters := [], returnType := none }, accessFlags := 0, code := none }
def k26c1 : Code := { maxStack := 3, maxLocals := 3, code := jdk_43_method_13_code, exceptionTable := #[], attributes := #[] }
def k26m1 : Method := { name := "equals", desc := "([B[B)Z", sig := { parameters := [(.array .byte), (.array .byte)], returnType := some .boolean }, accessFlags := 9, code := some k26c1 }
/-- java/lang/StringLatin1 -/
def k26 : Class := { plain "java/lang/StringLatin1" (some 0) with
  accessFlags := 48
  interfaces := #[]
  cf := some (fileOf pool26 14 #[.nestMembers #[390, 221]] #[{ accessFlags := 0, nameIndex := 7, descriptorIndex := 8, attributes := #[] }, { accessFlags := 9, nameIndex := 281, descriptorIndex := 282, attributes := #[] }] 48 4 #[] #[{ accessFlags := 4120, nameIndex := 121, descriptorIndex := 122, attributes := #[] }])
  fields := #[{ name := "$assertionsDisabled", type := .boolean, accessFlags := 4120, slot := 0, constantValue := 0 }]
  methods := #[k26m0, k26m1]
  instanceTypes := #[]
  staticTypes := #[.boolean]
  resolved := Array.replicate 395 none
  statics := none }

def pool27 : Array CpInfo := pool [(2, .class_ 4), (1, u "java/lang/Object"), (0, u "<init>"), (0, u "()V"), (17, .class_ 26), (1, u "jdk/internal/util/Preconditions"), (28, .class_ 56), (0, u "jdk/internal/util/Preconditions$4"), (57, .class_ 115), (0, u "jdk/internal/util/Preconditions$1"), (7, u "SIOOBE_FORMATTER"), (0, u "Ljava/util/function/BiFunction;"), (0, .class_ 126), (0, u "jdk/internal/util/Preconditions$2"), (3, u "AIOOBE_FORMATTER"), (0, .class_ 132), (0, u "jdk/internal/util/Preconditions$3"), (3, u "IOOBE_FORMATTER")] 57

def k27m0 : Method := { name := "<init>", desc := "()V", sig := { parameters := [], returnType := none }, accessFlags := 1, code := none }
/-- jdk/internal/util/Preconditions -/
def k27 : Class := { plain "jdk/internal/util/Preconditions" (some 0) with
  accessFlags := 33
  interfaces := #[]
  cf := some (fileOf pool27 24 #[.nestMembers #[55, 131, 125, 114]] #[{ accessFlags := 1, nameIndex := 5, descriptorIndex := 6, attributes := #[] }] 33 2 #[] #[{ accessFlags := 25, nameIndex := 123, descriptorIndex := 124, attributes := #[] }, { accessFlags := 25, nameIndex := 130, descriptorIndex := 124, attributes := #[] }, { accessFlags := 25, nameIndex := 136, descriptorIndex := 124, attributes := #[] }])
  fields := #[{ name := "SIOOBE_FORMATTER", type := (.object "java/util/function/BiFunction"), accessFlags := 25, slot := 0, constantValue := 0 }, { name := "AIOOBE_FORMATTER", type := (.object "java/util/function/BiFunction"), accessFlags := 25, slot := 1, constantValue := 0 }, { name := "IOOBE_FORMATTER", type := (.object "java/util/function/BiFunction"), accessFlags := 25, slot := 2, constantValue := 0 }]
  methods := #[k27m0]
  instanceTypes := #[]
  staticTypes := #[(.object "java/util/function/BiFunction"), (.object "java/util/function/BiFunction"), (.object "java/util/function/BiFunction")]
  resolved := Array.replicate 194 none
  statics := some 3 }

/-- the primitive byte -/
def k28 : Class := { plain "byte" none with kind := .primitive 'B', accessFlags := 0x411 }
/-- [B -/
def k29 : Class := { plain "[B" (some 0) with kind := .array 28 .byte, interfaces := #[18, 2], accessFlags := 1041 }

/-- the primitive char -/
def k30 : Class := { plain "char" none with kind := .primitive 'C', accessFlags := 0x411 }
/-- [C -/
def k31 : Class := { plain "[C" (some 0) with kind := .array 30 .char, interfaces := #[18, 2], accessFlags := 1041 }

/-- the primitive int -/
def k32 : Class := { plain "int" none with kind := .primitive 'I', accessFlags := 0x411 }
/-- [I -/
def k33 : Class := { plain "[I" (some 0) with kind := .array 32 .int, interfaces := #[18, 2], accessFlags := 1041 }

def heap : Heap := #[{ cls := 7, slots := #[.long 0, .int 1, .null, .int 0, .null, .int 0, .int 0], vm := .statics 7 },
  { cls := 12, slots := #[.null, .null, .ref 4, .null, .null, .null], vm := .statics 12 },
  { cls := 16, slots := #[.ref 4, .null], vm := .statics 16 },
  { cls := 27, slots := #[.null, .null, .null], vm := .statics 27 },
  { cls := 16, slots := #[.null, .null, .null], vm := .none }]
def classes : Array Class := #[k0, k1, k2, k3, k4, k5, k6, k7, k8, k9, k10, k11, k12, k13, k14, k15, k16, k17, k18, k19, k20, k21, k22, k23, k24, k25, k26, k27, k28, k29, k30, k31, k32, k33]
def interned : List (Array UInt16 × Addr) := []
def slotsUsed : Nat := 21
def theMethod : MethodId := ⟨1, 1⟩
def args0 : Array Value := #[.int 1, .int 65, .int 200, .int 66, .int 10]
def aboutOver (below : List Frame) : State where
  vm := { classes := classes, interned := interned.toArray }
  heap := heap
  slotsUsed := slotsUsed
  threads := #[{ frames := .invoking theMethod args0 :: below }]
def below0 : List Frame := [.native { method := ⟨0, 0⟩, args := #[] }]
def about1 : State := aboutOver below0
def p0 : Program := .bare "" "" ""
def e0 : Env := launch0.env 0 0 0
theorem w_frames : about1.frames = Frame.invoking theMethod args0 :: below0 := rfl
set_option maxRecDepth 65536 in
theorem w_args : argsFit about1.vm theMethod args0 = true := by decide +kernel
set_option maxRecDepth 65536 in
theorem w_heap : heapFits about1 = true := by decide +kernel
set_option maxRecDepth 65536 in
theorem w_runnable : about1.curStatus? = some .runnable := by decide +kernel
set_option maxRecDepth 65536 in
theorem w_alone : about1.alone = true := by decide +kernel
set_option maxRecDepth 65536 in
theorem w_named : about1.methodNamed? x = some theMethod := by decide +kernel
set_option maxRecDepth 65536 in
theorem w_hears : about1.hears theMethod below0 = true := by decide +kernel
set_option maxRecDepth 65536 in
theorem w_ripe : about1.ripe theMethod args0 below0 = true := by decide +kernel
theorem w_running : about1.status = .running := rfl
set_option maxRecDepth 65536 in
theorem w_room : about1.hasRoom e0.platform room_1 = true :=
  launch0.hasRoom_least _ room_1 (by decide +kernel) (by decide +kernel) (by decide +kernel) (by decide +kernel) (by decide +kernel) (by decide +kernel)
theorem allAtoms_all (ts : List Jvm.Cond) (a : Array Jvm.Value) (st : Jvm.State) : (allAtoms ts).before a st = ts.all (fun c => c.before a st) := by
  induction ts with
  | nil => rfl
  | cons c t ih =>
    show (Jvm.Cond.and c (allAtoms t)).before a st = _
    rw [Jvm.Cond.before_and, ih, List.all_cons]
def words1 : List Jvm.Cond := Jvm.Cond.code x code maxLocals ret :: tables_1
/-- a 'code' word, met by the world's own term for the bytes: nothing is compared byte by byte -/
theorem code_word {y : MethodName} {bytes : ByteArray} {mx : Nat} {rt : Option FieldType} {a : Array Value} {s : State} {m : MethodId} {meth : Method} {c : Code} (h1 : s.methodNamed? y = some m) (h2 : s.vm.method? m = some meth) (h3 : meth.code = some c) (h4 : c.code = bytes)
    (h5 : (c.maxLocals == mx && c.exceptionTable.isEmpty && decide (c.maxStack ≤ mostOperands) && decide (meth.sig.returnType = rt) && !meth.locks && decide (parseMethodDescriptor y.desc = some meth.sig)) = true) : (Jvm.Cond.code y bytes mx rt).before a s = true := by
  simp only [Bool.and_eq_true, beq_iff_eq, Bool.not_eq_true', decide_eq_true_eq] at h5
  obtain ⟨⟨⟨⟨⟨g1, g2⟩, g3⟩, g4⟩, g5⟩, g6⟩ := h5
  simp [Cond.before, Cond.holds, Cond.value, h1, h2, h3, h4, g1, g2, g3, g4, g5, g6]
def isCode : Jvm.Cond → Bool
  | .code _ _ _ _ => true
  | _ => false
theorem all_split {L : List Jvm.Cond} {P : Jvm.Cond → Bool} (h1 : L.all (fun c => isCode c || P c) = true) (h2 : ∀ c ∈ L.filter isCode, P c = true) : L.all P = true := by
  refine List.all_eq_true.mpr fun c hc => ?_
  have h := List.all_eq_true.mp h1 c hc
  rcases Bool.eq_false_or_eq_true (isCode c) with hi | hi
  · exact h2 c (List.mem_filter.mpr ⟨hc, hi⟩)
  · simpa [hi] using h
set_option maxRecDepth 65536 in
theorem w_c0 : (Jvm.Cond.code x code maxLocals ret).before args0 about1 = true := code_word (m := ⟨1, 1⟩) (meth := k1m1) (c := k1c1) (by decide +kernel) rfl rfl rfl (by decide +kernel)
set_option maxRecDepth 65536 in
theorem w_c1 : (Jvm.Cond.code ({ cls := "java/lang/String", name := "<init>", desc := "([C)V" } : Jvm.MethodName) jdk_42_method_3_code (2 : Nat) (Option.none : Option Jvm.ClassFile.FieldType)).before args0 about1 = true := code_word (m := ⟨7, 1⟩) (meth := k7m1) (c := k7c1) (by decide +kernel) rfl rfl rfl (by decide +kernel)
set_option maxRecDepth 65536 in
theorem w_c2 : (Jvm.Cond.code ({ cls := "java/lang/String", name := "<init>", desc := "([CIILjava/lang/Void;)V" } : Jvm.MethodName) jdk_42_method_149_code (6 : Nat) (Option.none : Option Jvm.ClassFile.FieldType)).before args0 about1 = true := code_word (m := ⟨7, 9⟩) (meth := k7m9) (c := k7c9) (by decide +kernel) rfl rfl rfl (by decide +kernel)
set_option maxRecDepth 65536 in
theorem w_c3 : (Jvm.Cond.code ({ cls := "java/lang/Object", name := "<init>", desc := "()V" } : Jvm.MethodName) object_method_1_code (1 : Nat) (Option.none : Option Jvm.ClassFile.FieldType)).before args0 about1 = true := code_word (m := ⟨0, 0⟩) (meth := k0m0) (c := k0c0) (by decide +kernel) rfl rfl rfl (by decide +kernel)
set_option maxRecDepth 65536 in
theorem w_c4 : (Jvm.Cond.code ({ cls := "java/lang/StringUTF16", name := "compress", desc := "([CII)[B" } : Jvm.MethodName) jdk_52_method_16_code (6 : Nat) (Option.some (Jvm.ClassFile.FieldType.array Jvm.ClassFile.FieldType.byte))).before args0 about1 = true := code_word (m := ⟨8, 2⟩) (meth := k8m2) (c := k8c2) (by decide +kernel) rfl rfl rfl (by decide +kernel)
set_option maxRecDepth 65536 in
theorem w_c5 : (Jvm.Cond.code ({ cls := "java/lang/StringUTF16", name := "compress", desc := "([CI[BII)I" } : Jvm.MethodName) jdk_52_method_21_code (7 : Nat) (Option.some Jvm.ClassFile.FieldType.int)).before args0 about1 = true := code_word (m := ⟨8, 3⟩) (meth := k8m3) (c := k8c3) (by decide +kernel) rfl rfl rfl (by decide +kernel)
set_option maxRecDepth 65536 in
theorem w_c6 : (Jvm.Cond.code ({ cls := "java/lang/StringUTF16", name := "coderFromArrayLen", desc := "([BI)B" } : Jvm.MethodName) jdk_52_method_15_code (2 : Nat) (Option.some Jvm.ClassFile.FieldType.byte)).before args0 about1 = true := code_word (m := ⟨8, 1⟩) (meth := k8m1) (c := k8c1) (by decide +kernel) rfl rfl rfl (by decide +kernel)
set_option maxRecDepth 65536 in
theorem w_c7 : (Jvm.Cond.code ({ cls := "com/example/gentle_commit/gentlecommit/initiator/Message", name := "<init>", desc := "(Ljava/lang/String;Ljava/lang/String;ZLjava/lang/String;Ljava/lang/String;[B)V" } : Jvm.MethodName) prog_10_method_1_code (7 : Nat) (Option.none : Option Jvm.ClassFile.FieldType)).before args0 about1 = true := code_word (m := ⟨10, 0⟩) (meth := k10m0) (c := k10c0) (by decide +kernel) rfl rfl rfl (by decide +kernel)
set_option maxRecDepth 65536 in
theorem w_c8 : (Jvm.Cond.code ({ cls := "java/lang/Record", name := "<init>", desc := "()V" } : Jvm.MethodName) jdk_30_method_1_code (1 : Nat) (Option.none : Option Jvm.ClassFile.FieldType)).before args0 about1 = true := code_word (m := ⟨9, 0⟩) (meth := k9m0) (c := k9c0) (by decide +kernel) rfl rfl rfl (by decide +kernel)
set_option maxRecDepth 65536 in
theorem w_c9 : (Jvm.Cond.code ({ cls := "java/util/Objects", name := "requireNonNull", desc := "(Ljava/lang/Object;Ljava/lang/String;)Ljava/lang/Object;" } : Jvm.MethodName) jdk_31_method_11_code (2 : Nat) (Option.some (Jvm.ClassFile.FieldType.object "java/lang/Object"))).before args0 about1 = true := code_word (m := ⟨11, 1⟩) (meth := k11m1) (c := k11c1) (by decide +kernel) rfl rfl rfl (by decide +kernel)
set_option maxRecDepth 65536 in
theorem w_c10 : (Jvm.Cond.code ({ cls := "com/example/gentle_commit/gentlecommit/initiator/Message", name := "requireName", desc := "(Ljava/lang/String;Ljava/lang/String;)V" } : Jvm.MethodName) prog_10_method_3_code (2 : Nat) (Option.none : Option Jvm.ClassFile.FieldType)).before args0 about1 = true := code_word (m := ⟨10, 2⟩) (meth := k10m2) (c := k10c2) (by decide +kernel) rfl rfl rfl (by decide +kernel)
set_option maxRecDepth 65536 in
theorem w_c11 : (Jvm.Cond.code ({ cls := "java/lang/String", name := "getBytes", desc := "(Ljava/nio/charset/Charset;)[B" } : Jvm.MethodName) jdk_42_method_64_code (2 : Nat) (Option.some (Jvm.ClassFile.FieldType.array Jvm.ClassFile.FieldType.byte))).before args0 about1 = true := code_word (m := ⟨7, 6⟩) (meth := k7m6) (c := k7c6) (by decide +kernel) rfl rfl rfl (by decide +kernel)
set_option maxRecDepth 65536 in
theorem w_c12 : (Jvm.Cond.code ({ cls := "java/lang/String", name := "coder", desc := "()B" } : Jvm.MethodName) jdk_42_method_152_code (1 : Nat) (Option.some Jvm.ClassFile.FieldType.byte)).before args0 about1 = true := code_word (m := ⟨7, 11⟩) (meth := k7m11) (c := k7c11) (by decide +kernel) rfl rfl rfl (by decide +kernel)
set_option maxRecDepth 65536 in
theorem w_c13 : (Jvm.Cond.code ({ cls := "java/lang/String", name := "encode", desc := "(Ljava/nio/charset/Charset;B[B)[B" } : Jvm.MethodName) jdk_42_method_18_code (3 : Nat) (Option.some (Jvm.ClassFile.FieldType.array Jvm.ClassFile.FieldType.byte))).before args0 about1 = true := code_word (m := ⟨7, 2⟩) (meth := k7m2) (c := k7c2) (by decide +kernel) rfl rfl rfl (by decide +kernel)
set_option maxRecDepth 65536 in
theorem w_c14 : (Jvm.Cond.code ({ cls := "java/lang/String", name := "encodeUTF8", desc := "(B[BZ)[B" } : Jvm.MethodName) jdk_42_method_46_code (9 : Nat) (Option.some (Jvm.ClassFile.FieldType.array Jvm.ClassFile.FieldType.byte))).before args0 about1 = true := code_word (m := ⟨7, 3⟩) (meth := k7m3) (c := k7c3) (by decide +kernel) rfl rfl rfl (by decide +kernel)
set_option maxRecDepth 65536 in
theorem w_c15 : (Jvm.Cond.code ({ cls := "java/lang/StringCoding", name := "hasNegatives", desc := "([BII)Z" } : Jvm.MethodName) jdk_123_method_2_code (3 : Nat) (Option.some Jvm.ClassFile.FieldType.boolean)).before args0 about1 = true := code_word (m := ⟨17, 1⟩) (meth := k17m1) (c := k17c1) (by decide +kernel) rfl rfl rfl (by decide +kernel)
set_option maxRecDepth 65536 in
theorem w_c16 : (Jvm.Cond.code ({ cls := "java/lang/StringCoding", name := "countPositives", desc := "([BII)I" } : Jvm.MethodName) jdk_123_method_3_code (5 : Nat) (Option.some Jvm.ClassFile.FieldType.int)).before args0 about1 = true := code_word (m := ⟨17, 2⟩) (meth := k17m2) (c := k17c2) (by decide +kernel) rfl rfl rfl (by decide +kernel)
set_option maxRecDepth 65536 in
theorem w_c17 : (Jvm.Cond.code ({ cls := "com/example/gentle_commit/gentlecommit/initiator/Message", name := "describe", desc := "()Ljava/lang/String;" } : Jvm.MethodName) prog_10_method_2_code (1 : Nat) (Option.some (Jvm.ClassFile.FieldType.object "java/lang/String"))).before args0 about1 = true := code_word (m := ⟨10, 1⟩) (meth := k10m1) (c := k10c1) (by decide +kernel) rfl rfl rfl (by decide +kernel)
set_option maxRecDepth 65536 in
theorem w_c18 : (Jvm.Cond.code ({ cls := "java/lang/StringBuilder", name := "<init>", desc := "()V" } : Jvm.MethodName) jdk_67_method_1_code (1 : Nat) (Option.none : Option Jvm.ClassFile.FieldType)).before args0 about1 = true := code_word (m := ⟨21, 0⟩) (meth := k21m0) (c := k21c0) (by decide +kernel) rfl rfl rfl (by decide +kernel)
set_option maxRecDepth 65536 in
theorem w_c19 : (Jvm.Cond.code ({ cls := "java/lang/AbstractStringBuilder", name := "<init>", desc := "(I)V" } : Jvm.MethodName) jdk_68_method_2_code (2 : Nat) (Option.none : Option Jvm.ClassFile.FieldType)).before args0 about1 = true := code_word (m := ⟨20, 1⟩) (meth := k20m1) (c := k20c1) (by decide +kernel) rfl rfl rfl (by decide +kernel)
set_option maxRecDepth 65536 in
theorem w_c20 : (Jvm.Cond.code ({ cls := "java/lang/StringBuilder", name := "append", desc := "(Ljava/lang/String;)Ljava/lang/StringBuilder;" } : Jvm.MethodName) jdk_67_method_7_code (2 : Nat) (Option.some (Jvm.ClassFile.FieldType.object "java/lang/StringBuilder"))).before args0 about1 = true := code_word (m := ⟨21, 1⟩) (meth := k21m1) (c := k21c1) (by decide +kernel) rfl rfl rfl (by decide +kernel)
set_option maxRecDepth 65536 in
theorem w_c21 : (Jvm.Cond.code ({ cls := "java/lang/AbstractStringBuilder", name := "append", desc := "(Ljava/lang/String;)Ljava/lang/AbstractStringBuilder;" } : Jvm.MethodName) jdk_68_method_22_code (3 : Nat) (Option.some (Jvm.ClassFile.FieldType.object "java/lang/AbstractStringBuilder"))).before args0 about1 = true := code_word (m := ⟨20, 5⟩) (meth := k20m5) (c := k20c5) (by decide +kernel) rfl rfl rfl (by decide +kernel)
set_option maxRecDepth 65536 in
theorem w_c22 : (Jvm.Cond.code ({ cls := "java/lang/String", name := "length", desc := "()I" } : Jvm.MethodName) jdk_42_method_54_code (1 : Nat) (Option.some Jvm.ClassFile.FieldType.int)).before args0 about1 = true := code_word (m := ⟨7, 5⟩) (meth := k7m5) (c := k7c5) (by decide +kernel) rfl rfl rfl (by decide +kernel)
set_option maxRecDepth 65536 in
theorem w_c23 : (Jvm.Cond.code ({ cls := "java/lang/AbstractStringBuilder", name := "ensureCapacityInternal", desc := "(I)V" } : Jvm.MethodName) jdk_68_method_9_code (3 : Nat) (Option.none : Option Jvm.ClassFile.FieldType)).before args0 about1 = true := code_word (m := ⟨20, 3⟩) (meth := k20m3) (c := k20c3) (by decide +kernel) rfl rfl rfl (by decide +kernel)
set_option maxRecDepth 65536 in
theorem w_c24 : (Jvm.Cond.code ({ cls := "java/lang/AbstractStringBuilder", name := "putStringAt", desc := "(ILjava/lang/String;)V" } : Jvm.MethodName) jdk_68_method_73_code (3 : Nat) (Option.none : Option Jvm.ClassFile.FieldType)).before args0 about1 = true := code_word (m := ⟨20, 9⟩) (meth := k20m9) (c := k20c9) (by decide +kernel) rfl rfl rfl (by decide +kernel)
set_option maxRecDepth 65536 in
theorem w_c25 : (Jvm.Cond.code ({ cls := "java/lang/AbstractStringBuilder", name := "inflateIfNeededFor", desc := "(Ljava/lang/String;)V" } : Jvm.MethodName) jdk_68_method_71_code (2 : Nat) (Option.none : Option Jvm.ClassFile.FieldType)).before args0 about1 = true := code_word (m := ⟨20, 8⟩) (meth := k20m8) (c := k20c8) (by decide +kernel) rfl rfl rfl (by decide +kernel)
set_option maxRecDepth 65536 in
theorem w_c26 : (Jvm.Cond.code ({ cls := "java/lang/String", name := "getBytes", desc := "([BIB)V" } : Jvm.MethodName) jdk_42_method_147_code (4 : Nat) (Option.none : Option Jvm.ClassFile.FieldType)).before args0 about1 = true := code_word (m := ⟨7, 8⟩) (meth := k7m8) (c := k7c8) (by decide +kernel) rfl rfl rfl (by decide +kernel)
set_option maxRecDepth 65536 in
theorem w_c27 : (Jvm.Cond.code ({ cls := "java/lang/AbstractStringBuilder", name := "newCapacity", desc := "(I)I" } : Jvm.MethodName) jdk_68_method_10_code (6 : Nat) (Option.some Jvm.ClassFile.FieldType.int)).before args0 about1 = true := code_word (m := ⟨20, 4⟩) (meth := k20m4) (c := k20c4) (by decide +kernel) rfl rfl rfl (by decide +kernel)
set_option maxRecDepth 65536 in
theorem w_c28 : (Jvm.Cond.code ({ cls := "jdk/internal/util/ArraysSupport", name := "newLength", desc := "(III)I" } : Jvm.MethodName) jdk_48_method_27_code (4 : Nat) (Option.some Jvm.ClassFile.FieldType.int)).before args0 about1 = true := code_word (m := ⟨23, 1⟩) (meth := k23m1) (c := k23c1) (by decide +kernel) rfl rfl rfl (by decide +kernel)
set_option maxRecDepth 65536 in
theorem w_c29 : (Jvm.Cond.code ({ cls := "java/lang/Math", name := "max", desc := "(II)I" } : Jvm.MethodName) jdk_29_method_65_code (2 : Nat) (Option.some Jvm.ClassFile.FieldType.int)).before args0 about1 = true := code_word (m := ⟨24, 1⟩) (meth := k24m1) (c := k24c1) (by decide +kernel) rfl rfl rfl (by decide +kernel)
set_option maxRecDepth 65536 in
theorem w_c30 : (Jvm.Cond.code ({ cls := "java/util/Arrays", name := "copyOf", desc := "([BI)[B" } : Jvm.MethodName) jdk_65_method_121_code (3 : Nat) (Option.some (Jvm.ClassFile.FieldType.array Jvm.ClassFile.FieldType.byte))).before args0 about1 = true := code_word (m := ⟨25, 1⟩) (meth := k25m1) (c := k25c1) (by decide +kernel) rfl rfl rfl (by decide +kernel)
set_option maxRecDepth 65536 in
theorem w_c31 : (Jvm.Cond.code ({ cls := "java/lang/Math", name := "min", desc := "(II)I" } : Jvm.MethodName) jdk_29_method_69_code (2 : Nat) (Option.some Jvm.ClassFile.FieldType.int)).before args0 about1 = true := code_word (m := ⟨24, 2⟩) (meth := k24m2) (c := k24c2) (by decide +kernel) rfl rfl rfl (by decide +kernel)
set_option maxRecDepth 65536 in
theorem w_c32 : (Jvm.Cond.code ({ cls := "java/lang/StringBuilder", name := "toString", desc := "()Ljava/lang/String;" } : Jvm.MethodName) jdk_67_method_42_code (1 : Nat) (Option.some (Jvm.ClassFile.FieldType.object "java/lang/String"))).before args0 about1 = true := code_word (m := ⟨21, 2⟩) (meth := k21m2) (c := k21c2) (by decide +kernel) rfl rfl rfl (by decide +kernel)
set_option maxRecDepth 65536 in
theorem w_c33 : (Jvm.Cond.code ({ cls := "java/lang/String", name := "<init>", desc := "(Ljava/lang/StringBuilder;)V" } : Jvm.MethodName) jdk_42_method_53_code (2 : Nat) (Option.none : Option Jvm.ClassFile.FieldType)).before args0 about1 = true := code_word (m := ⟨7, 4⟩) (meth := k7m4) (c := k7c4) (by decide +kernel) rfl rfl rfl (by decide +kernel)
set_option maxRecDepth 65536 in
theorem w_c34 : (Jvm.Cond.code ({ cls := "java/lang/String", name := "<init>", desc := "(Ljava/lang/AbstractStringBuilder;Ljava/lang/Void;)V" } : Jvm.MethodName) jdk_42_method_150_code (5 : Nat) (Option.none : Option Jvm.ClassFile.FieldType)).before args0 about1 = true := code_word (m := ⟨7, 10⟩) (meth := k7m10) (c := k7c10) (by decide +kernel) rfl rfl rfl (by decide +kernel)
set_option maxRecDepth 65536 in
theorem w_c35 : (Jvm.Cond.code ({ cls := "java/lang/AbstractStringBuilder", name := "getValue", desc := "()[B" } : Jvm.MethodName) jdk_68_method_64_code (1 : Nat) (Option.some (Jvm.ClassFile.FieldType.array Jvm.ClassFile.FieldType.byte))).before args0 about1 = true := code_word (m := ⟨20, 6⟩) (meth := k20m6) (c := k20c6) (by decide +kernel) rfl rfl rfl (by decide +kernel)
set_option maxRecDepth 65536 in
theorem w_c36 : (Jvm.Cond.code ({ cls := "java/lang/StringBuilder", name := "length", desc := "()I" } : Jvm.MethodName) jdk_67_method_93_code (1 : Nat) (Option.some Jvm.ClassFile.FieldType.int)).before args0 about1 = true := code_word (m := ⟨21, 3⟩) (meth := k21m3) (c := k21c3) (by decide +kernel) rfl rfl rfl (by decide +kernel)
set_option maxRecDepth 65536 in
theorem w_c37 : (Jvm.Cond.code ({ cls := "java/lang/AbstractStringBuilder", name := "length", desc := "()I" } : Jvm.MethodName) jdk_68_method_6_code (1 : Nat) (Option.some Jvm.ClassFile.FieldType.int)).before args0 about1 = true := code_word (m := ⟨20, 2⟩) (meth := k20m2) (c := k20c2) (by decide +kernel) rfl rfl rfl (by decide +kernel)
set_option maxRecDepth 65536 in
theorem w_c38 : (Jvm.Cond.code ({ cls := "java/lang/AbstractStringBuilder", name := "isLatin1", desc := "()Z" } : Jvm.MethodName) jdk_68_method_68_code (1 : Nat) (Option.some Jvm.ClassFile.FieldType.boolean)).before args0 about1 = true := code_word (m := ⟨20, 7⟩) (meth := k20m7) (c := k20c7) (by decide +kernel) rfl rfl rfl (by decide +kernel)
set_option maxRecDepth 65536 in
theorem w_c39 : (Jvm.Cond.code ({ cls := "java/util/Arrays", name := "copyOfRange", desc := "([BII)[B" } : Jvm.MethodName) jdk_65_method_132_code (3 : Nat) (Option.some (Jvm.ClassFile.FieldType.array Jvm.ClassFile.FieldType.byte))).before args0 about1 = true := code_word (m := ⟨25, 3⟩) (meth := k25m3) (c := k25c3) (by decide +kernel) rfl rfl rfl (by decide +kernel)
set_option maxRecDepth 65536 in
theorem w_c40 : (Jvm.Cond.code ({ cls := "java/util/Arrays", name := "copyOfRangeByte", desc := "([BII)[B" } : Jvm.MethodName) jdk_65_method_133_code (5 : Nat) (Option.some (Jvm.ClassFile.FieldType.array Jvm.ClassFile.FieldType.byte))).before args0 about1 = true := code_word (m := ⟨25, 4⟩) (meth := k25m4) (c := k25c4) (by decide +kernel) rfl rfl rfl (by decide +kernel)
set_option maxRecDepth 65536 in
theorem w_c41 : (Jvm.Cond.code ({ cls := "java/util/Arrays", name := "checkLength", desc := "(II)V" } : Jvm.MethodName) jdk_65_method_131_code (2 : Nat) (Option.none : Option Jvm.ClassFile.FieldType)).before args0 about1 = true := code_word (m := ⟨25, 2⟩) (meth := k25m2) (c := k25c2) (by decide +kernel) rfl rfl rfl (by decide +kernel)
set_option maxRecDepth 65536 in
theorem w_c42 : (Jvm.Cond.code ({ cls := "java/lang/String", name := "equals", desc := "(Ljava/lang/Object;)Z" } : Jvm.MethodName) jdk_42_method_66_code (3 : Nat) (Option.some Jvm.ClassFile.FieldType.boolean)).before args0 about1 = true := code_word (m := ⟨7, 7⟩) (meth := k7m7) (c := k7c7) (by decide +kernel) rfl rfl rfl (by decide +kernel)
set_option maxRecDepth 65536 in
theorem w_c43 : (Jvm.Cond.code ({ cls := "java/lang/StringLatin1", name := "equals", desc := "([B[B)Z" } : Jvm.MethodName) jdk_43_method_13_code (3 : Nat) (Option.some Jvm.ClassFile.FieldType.boolean)).before args0 about1 = true := code_word (m := ⟨26, 1⟩) (meth := k26m1) (c := k26c1) (by decide +kernel) rfl rfl rfl (by decide +kernel)
def codes1 : List Jvm.Cond := [Jvm.Cond.code x code maxLocals ret, Jvm.Cond.code ({ cls := "java/lang/String", name := "<init>", desc := "([C)V" } : Jvm.MethodName) jdk_42_method_3_code (2 : Nat) (Option.none : Option Jvm.ClassFile.FieldType), Jvm.Cond.code ({ cls := "java/lang/String", name := "<init>", desc := "([CIILjava/lang/Void;)V" } : Jvm.MethodName) jdk_42_method_149_code (6 : Nat) (Option.none : Option Jvm.ClassFile.FieldType), Jvm.Cond.code ({ cls := "java/lang/Object", name := "<init>", desc := "()V" } : Jvm.MethodName) object_method_1_code (1 : Nat) (Option.none : Option Jvm.ClassFile.FieldType), Jvm.Cond.code ({ cls := "java/lang/StringUTF16", name := "compress", desc := "([CII)[B" } : Jvm.MethodName) jdk_52_method_16_code (6 : Nat) (Option.some (Jvm.ClassFile.FieldType.array Jvm.ClassFile.FieldType.byte)), Jvm.Cond.code ({ cls := "java/lang/StringUTF16", name := "compress", desc := "([CI[BII)I" } : Jvm.MethodName) jdk_52_method_21_code (7 : Nat) (Option.some Jvm.ClassFile.FieldType.int), Jvm.Cond.code ({ cls := "java/lang/StringUTF16", name := "coderFromArrayLen", desc := "([BI)B" } : Jvm.MethodName) jdk_52_method_15_code (2 : Nat) (Option.some Jvm.ClassFile.FieldType.byte), Jvm.Cond.code ({ cls := "com/example/gentle_commit/gentlecommit/initiator/Message", name := "<init>", desc := "(Ljava/lang/String;Ljava/lang/String;ZLjava/lang/String;Ljava/lang/String;[B)V" } : Jvm.MethodName) prog_10_method_1_code (7 : Nat) (Option.none : Option Jvm.ClassFile.FieldType), Jvm.Cond.code ({ cls := "java/lang/Record", name := "<init>", desc := "()V" } : Jvm.MethodName) jdk_30_method_1_code (1 : Nat) (Option.none : Option Jvm.ClassFile.FieldType), Jvm.Cond.code ({ cls := "java/util/Objects", name := "requireNonNull", desc := "(Ljava/lang/Object;Ljava/lang/String;)Ljava/lang/Object;" } : Jvm.MethodName) jdk_31_method_11_code (2 : Nat) (Option.some (Jvm.ClassFile.FieldType.object "java/lang/Object")), Jvm.Cond.code ({ cls := "com/example/gentle_commit/gentlecommit/initiator/Message", name := "requireName", desc := "(Ljava/lang/String;Ljava/lang/String;)V" } : Jvm.MethodName) prog_10_method_3_code (2 : Nat) (Option.none : Option Jvm.ClassFile.FieldType), Jvm.Cond.code ({ cls := "java/lang/String", name := "getBytes", desc := "(Ljava/nio/charset/Charset;)[B" } : Jvm.MethodName) jdk_42_method_64_code (2 : Nat) (Option.some (Jvm.ClassFile.FieldType.array Jvm.ClassFile.FieldType.byte)), Jvm.Cond.code ({ cls := "java/lang/String", name := "coder", desc := "()B" } : Jvm.MethodName) jdk_42_method_152_code (1 : Nat) (Option.some Jvm.ClassFile.FieldType.byte), Jvm.Cond.code ({ cls := "java/lang/String", name := "encode", desc := "(Ljava/nio/charset/Charset;B[B)[B" } : Jvm.MethodName) jdk_42_method_18_code (3 : Nat) (Option.some (Jvm.ClassFile.FieldType.array Jvm.ClassFile.FieldType.byte)), Jvm.Cond.code ({ cls := "java/lang/String", name := "encodeUTF8", desc := "(B[BZ)[B" } : Jvm.MethodName) jdk_42_method_46_code (9 : Nat) (Option.some (Jvm.ClassFile.FieldType.array Jvm.ClassFile.FieldType.byte)), Jvm.Cond.code ({ cls := "java/lang/StringCoding", name := "hasNegatives", desc := "([BII)Z" } : Jvm.MethodName) jdk_123_method_2_code (3 : Nat) (Option.some Jvm.ClassFile.FieldType.boolean), Jvm.Cond.code ({ cls := "java/lang/StringCoding", name := "countPositives", desc := "([BII)I" } : Jvm.MethodName) jdk_123_method_3_code (5 : Nat) (Option.some Jvm.ClassFile.FieldType.int), Jvm.Cond.code ({ cls := "com/example/gentle_commit/gentlecommit/initiator/Message", name := "describe", desc := "()Ljava/lang/String;" } : Jvm.MethodName) prog_10_method_2_code (1 : Nat) (Option.some (Jvm.ClassFile.FieldType.object "java/lang/String")), Jvm.Cond.code ({ cls := "java/lang/StringBuilder", name := "<init>", desc := "()V" } : Jvm.MethodName) jdk_67_method_1_code (1 : Nat) (Option.none : Option Jvm.ClassFile.FieldType), Jvm.Cond.code ({ cls := "java/lang/AbstractStringBuilder", name := "<init>", desc := "(I)V" } : Jvm.MethodName) jdk_68_method_2_code (2 : Nat) (Option.none : Option Jvm.ClassFile.FieldType), Jvm.Cond.code ({ cls := "java/lang/StringBuilder", name := "append", desc := "(Ljava/lang/String;)Ljava/lang/StringBuilder;" } : Jvm.MethodName) jdk_67_method_7_code (2 : Nat) (Option.some (Jvm.ClassFile.FieldType.object "java/lang/StringBuilder")), Jvm.Cond.code ({ cls := "java/lang/AbstractStringBuilder", name := "append", desc := "(Ljava/lang/String;)Ljava/lang/AbstractStringBuilder;" } : Jvm.MethodName) jdk_68_method_22_code (3 : Nat) (Option.some (Jvm.ClassFile.FieldType.object "java/lang/AbstractStringBuilder")), Jvm.Cond.code ({ cls := "java/lang/String", name := "length", desc := "()I" } : Jvm.MethodName) jdk_42_method_54_code (1 : Nat) (Option.some Jvm.ClassFile.FieldType.int), Jvm.Cond.code ({ cls := "java/lang/AbstractStringBuilder", name := "ensureCapacityInternal", desc := "(I)V" } : Jvm.MethodName) jdk_68_method_9_code (3 : Nat) (Option.none : Option Jvm.ClassFile.FieldType), Jvm.Cond.code ({ cls := "java/lang/AbstractStringBuilder", name := "putStringAt", desc := "(ILjava/lang/String;)V" } : Jvm.MethodName) jdk_68_method_73_code (3 : Nat) (Option.none : Option Jvm.ClassFile.FieldType), Jvm.Cond.code ({ cls := "java/lang/AbstractStringBuilder", name := "inflateIfNeededFor", desc := "(Ljava/lang/String;)V" } : Jvm.MethodName) jdk_68_method_71_code (2 : Nat) (Option.none : Option Jvm.ClassFile.FieldType), Jvm.Cond.code ({ cls := "java/lang/String", name := "getBytes", desc := "([BIB)V" } : Jvm.MethodName) jdk_42_method_147_code (4 : Nat) (Option.none : Option Jvm.ClassFile.FieldType), Jvm.Cond.code ({ cls := "java/lang/AbstractStringBuilder", name := "newCapacity", desc := "(I)I" } : Jvm.MethodName) jdk_68_method_10_code (6 : Nat) (Option.some Jvm.ClassFile.FieldType.int), Jvm.Cond.code ({ cls := "jdk/internal/util/ArraysSupport", name := "newLength", desc := "(III)I" } : Jvm.MethodName) jdk_48_method_27_code (4 : Nat) (Option.some Jvm.ClassFile.FieldType.int), Jvm.Cond.code ({ cls := "java/lang/Math", name := "max", desc := "(II)I" } : Jvm.MethodName) jdk_29_method_65_code (2 : Nat) (Option.some Jvm.ClassFile.FieldType.int), Jvm.Cond.code ({ cls := "java/util/Arrays", name := "copyOf", desc := "([BI)[B" } : Jvm.MethodName) jdk_65_method_121_code (3 : Nat) (Option.some (Jvm.ClassFile.FieldType.array Jvm.ClassFile.FieldType.byte)), Jvm.Cond.code ({ cls := "java/lang/Math", name := "min", desc := "(II)I" } : Jvm.MethodName) jdk_29_method_69_code (2 : Nat) (Option.some Jvm.ClassFile.FieldType.int), Jvm.Cond.code ({ cls := "java/lang/StringBuilder", name := "toString", desc := "()Ljava/lang/String;" } : Jvm.MethodName) jdk_67_method_42_code (1 : Nat) (Option.some (Jvm.ClassFile.FieldType.object "java/lang/String")), Jvm.Cond.code ({ cls := "java/lang/String", name := "<init>", desc := "(Ljava/lang/StringBuilder;)V" } : Jvm.MethodName) jdk_42_method_53_code (2 : Nat) (Option.none : Option Jvm.ClassFile.FieldType), Jvm.Cond.code ({ cls := "java/lang/String", name := "<init>", desc := "(Ljava/lang/AbstractStringBuilder;Ljava/lang/Void;)V" } : Jvm.MethodName) jdk_42_method_150_code (5 : Nat) (Option.none : Option Jvm.ClassFile.FieldType), Jvm.Cond.code ({ cls := "java/lang/AbstractStringBuilder", name := "getValue", desc := "()[B" } : Jvm.MethodName) jdk_68_method_64_code (1 : Nat) (Option.some (Jvm.ClassFile.FieldType.array Jvm.ClassFile.FieldType.byte)), Jvm.Cond.code ({ cls := "java/lang/StringBuilder", name := "length", desc := "()I" } : Jvm.MethodName) jdk_67_method_93_code (1 : Nat) (Option.some Jvm.ClassFile.FieldType.int), Jvm.Cond.code ({ cls := "java/lang/AbstractStringBuilder", name := "length", desc := "()I" } : Jvm.MethodName) jdk_68_method_6_code (1 : Nat) (Option.some Jvm.ClassFile.FieldType.int), Jvm.Cond.code ({ cls := "java/lang/AbstractStringBuilder", name := "isLatin1", desc := "()Z" } : Jvm.MethodName) jdk_68_method_68_code (1 : Nat) (Option.some Jvm.ClassFile.FieldType.boolean), Jvm.Cond.code ({ cls := "java/util/Arrays", name := "copyOfRange", desc := "([BII)[B" } : Jvm.MethodName) jdk_65_method_132_code (3 : Nat) (Option.some (Jvm.ClassFile.FieldType.array Jvm.ClassFile.FieldType.byte)), Jvm.Cond.code ({ cls := "java/util/Arrays", name := "copyOfRangeByte", desc := "([BII)[B" } : Jvm.MethodName) jdk_65_method_133_code (5 : Nat) (Option.some (Jvm.ClassFile.FieldType.array Jvm.ClassFile.FieldType.byte)), Jvm.Cond.code ({ cls := "java/util/Arrays", name := "checkLength", desc := "(II)V" } : Jvm.MethodName) jdk_65_method_131_code (2 : Nat) (Option.none : Option Jvm.ClassFile.FieldType), Jvm.Cond.code ({ cls := "java/lang/String", name := "equals", desc := "(Ljava/lang/Object;)Z" } : Jvm.MethodName) jdk_42_method_66_code (3 : Nat) (Option.some Jvm.ClassFile.FieldType.boolean), Jvm.Cond.code ({ cls := "java/lang/StringLatin1", name := "equals", desc := "([B[B)Z" } : Jvm.MethodName) jdk_43_method_13_code (3 : Nat) (Option.some Jvm.ClassFile.FieldType.boolean)]
set_option maxRecDepth 65536 in
theorem codes_eq : words1.filter isCode = codes1 := rfl
theorem w_codes : ∀ c ∈ words1.filter isCode, c.before args0 about1 = true := by
  rw [codes_eq]
  intro c hc
  simp only [codes1, List.mem_cons, List.not_mem_nil, or_false] at hc
  rcases hc with rfl | rfl | rfl | rfl | rfl | rfl | rfl | rfl | rfl | rfl | rfl | rfl | rfl | rfl | rfl | rfl | rfl | rfl | rfl | rfl | rfl | rfl | rfl | rfl | rfl | rfl | rfl | rfl | rfl | rfl | rfl | rfl | rfl | rfl | rfl | rfl | rfl | rfl | rfl | rfl | rfl | rfl | rfl | rfl
  · exact w_c0
  · exact w_c1
  · exact w_c2
  · exact w_c3
  · exact w_c4
  · exact w_c5
  · exact w_c6
  · exact w_c7
  · exact w_c8
  · exact w_c9
  · exact w_c10
  · exact w_c11
  · exact w_c12
  · exact w_c13
  · exact w_c14
  · exact w_c15
  · exact w_c16
  · exact w_c17
  · exact w_c18
  · exact w_c19
  · exact w_c20
  · exact w_c21
  · exact w_c22
  · exact w_c23
  · exact w_c24
  · exact w_c25
  · exact w_c26
  · exact w_c27
  · exact w_c28
  · exact w_c29
  · exact w_c30
  · exact w_c31
  · exact w_c32
  · exact w_c33
  · exact w_c34
  · exact w_c35
  · exact w_c36
  · exact w_c37
  · exact w_c38
  · exact w_c39
  · exact w_c40
  · exact w_c41
  · exact w_c42
  · exact w_c43
set_option maxRecDepth 65536 in
theorem w_t1 : (words1.take 24).all (fun c => isCode c || c.before args0 about1) = true := by decide +kernel
set_option maxRecDepth 65536 in
theorem w_t2 : ((words1.drop 24).take 24).all (fun c => isCode c || c.before args0 about1) = true := by decide +kernel
set_option maxRecDepth 65536 in
theorem w_t3 : (((words1.drop 24).drop 24).take 24).all (fun c => isCode c || c.before args0 about1) = true := by decide +kernel
set_option maxRecDepth 65536 in
theorem w_t4 : ((((words1.drop 24).drop 24).drop 24).take 24).all (fun c => isCode c || c.before args0 about1) = true := by decide +kernel
set_option maxRecDepth 65536 in
theorem w_t5 : (((((words1.drop 24).drop 24).drop 24).drop 24).take 24).all (fun c => isCode c || c.before args0 about1) = true := by decide +kernel
set_option maxRecDepth 65536 in
theorem w_t6 : ((((((words1.drop 24).drop 24).drop 24).drop 24).drop 24).take 24).all (fun c => isCode c || c.before args0 about1) = true := by decide +kernel
set_option maxRecDepth 65536 in
theorem w_t7 : (((((((words1.drop 24).drop 24).drop 24).drop 24).drop 24).drop 24).take 24).all (fun c => isCode c || c.before args0 about1) = true := by decide +kernel
set_option maxRecDepth 65536 in
theorem w_t8 : ((((((((words1.drop 24).drop 24).drop 24).drop 24).drop 24).drop 24).drop 24).take 24).all (fun c => isCode c || c.before args0 about1) = true := by decide +kernel
set_option maxRecDepth 65536 in
theorem w_t9 : (((((((((words1.drop 24).drop 24).drop 24).drop 24).drop 24).drop 24).drop 24).drop 24).take 24).all (fun c => isCode c || c.before args0 about1) = true := by decide +kernel
set_option maxRecDepth 65536 in
theorem w_t10 : ((((((((((words1.drop 24).drop 24).drop 24).drop 24).drop 24).drop 24).drop 24).drop 24).drop 24).take 24).all (fun c => isCode c || c.before args0 about1) = true := by decide +kernel
set_option maxRecDepth 65536 in
theorem w_t11 : ((((((((((words1.drop 24).drop 24).drop 24).drop 24).drop 24).drop 24).drop 24).drop 24).drop 24).drop 24).all (fun c => isCode c || c.before args0 about1) = true := by decide +kernel
theorem w_tables : (allAtoms (Jvm.Cond.code x code maxLocals ret :: tables_1)).before args0 about1 = true := by
  rw [allAtoms_all]
  show words1.all (fun c => c.before args0 about1) = true
  refine all_split ?_ w_codes
  rw [← List.take_append_drop 24 words1, List.all_append, w_t1, ← List.take_append_drop 24 (words1.drop 24), List.all_append, w_t2, ← List.take_append_drop 24 ((words1.drop 24).drop 24), List.all_append, w_t3, ← List.take_append_drop 24 (((words1.drop 24).drop 24).drop 24), List.all_append, w_t4, ← List.take_append_drop 24 ((((words1.drop 24).drop 24).drop 24).drop 24), List.all_append, w_t5, ← List.take_append_drop 24 (((((words1.drop 24).drop 24).drop 24).drop 24).drop 24), List.all_append, w_t6, ← List.take_append_drop 24 ((((((words1.drop 24).drop 24).drop 24).drop 24).drop 24).drop 24), List.all_append, w_t7, ← List.take_append_drop 24 (((((((words1.drop 24).drop 24).drop 24).drop 24).drop 24).drop 24).drop 24), List.all_append, w_t8, ← List.take_append_drop 24 ((((((((words1.drop 24).drop 24).drop 24).drop 24).drop 24).drop 24).drop 24).drop 24), List.all_append, w_t9, ← List.take_append_drop 24 (((((((((words1.drop 24).drop 24).drop 24).drop 24).drop 24).drop 24).drop 24).drop 24).drop 24), List.all_append, w_t10, w_t11]
  rfl
set_option maxRecDepth 65536 in
theorem w_rest : rest_1_c.before args0 about1 = true := by decide +kernel
set_option maxRecDepth 65536 in
theorem w_case : (Jvm.Cond.and given_1 narrow_1).before args0 about1 = true := by decide +kernel
set_option maxRecDepth 65536 in
theorem w_consts : constsHeld consts_1 about1 := Jvm.Lit.constsHeldB_iff.mp (by decide +kernel)
theorem w_applies : (headSpec (Jvm.Cond.code x code maxLocals ret :: tables_1) room_1).applies x e0.platform about1 = true :=
  (Spec.applies_iff w_frames).mpr ⟨w_running, w_runnable, w_alone, w_named, w_hears, w_ripe, w_room, w_tables⟩
theorem atStart : AtStart classFile x code maxLocals ret World_1 tables_1 room_1 Calls_1 rest_1 Pre_1 launch0 p0 e0 about1 theMethod args0 below0 :=
  ⟨lists_1, trivial, launch0.admits_env _ _ _, launch0.least_env, fairChoices_fair.cas, fairChoices_fair.clock, w_frames, w_args, w_heap, w_applies, ⟨w_consts, trivial⟩, w_rest, w_case⟩
end start1
theorem witness_1 : WitnessClaimed_1 := ⟨start1.p0, start1.e0, start1.about1, start1.theMethod, start1.args0, start1.below0, start1.atStart⟩
end Jvm.Pilot.@@N@@
