import JvmDerived
import JvmDerived.Pilot.@@N@@Statement
import JvmDerived.Pilot.@@N@@Code
set_option linter.unusedVariables false
set_option linter.unusedSimpArgs false
namespace Jvm.RoadKit
open Sem ClassFile Op Lib Jvm.Stand Jvm.Free Jvm.LawKit
section New
variable {p : Program} {l : Launch} {e : Env} {R : Room} {s : State} {m : MethodId} {args : Array Value} {below : List Frame} {meth : Method} {c : Code} {T : State} {locs : List Loc} {cells slots : Nat}
theorem retI (X : Stand p l e R s m args below meth c T locs cells slots) (hx : p.tables.exec = Jvm.exec) {pc : Nat} {Ls : Array Slot} {z : Int32} {rest : List Value} (hret : meth.sig.returnType = some .int) (hd : decode c.code pc = .ok (.ireturn, 1)) {fs : List Frame}
    (hl : ∀ (f : JFrame) (acts : List Action), f.method = m → f.locked = none → f.entered = [] → (doReturn e (T.setTop f) acts (some (.int z))).1 = T.setFrames fs) : Steps p.tables e below (T.setTop (mkF m pc Ls (.int z :: rest))) (T.setFrames fs) := by
  have hm' : T.vm.method? m = some meth := X.method'
  have hn : narrow .int (.int z) = .int z := rfl
  show Steps p.tables e below (T.setTop { method := m, pc := pc, locals := Ls, stack := _ :: rest, locked := none }) _
  jvm_step X.here [X.here.top, hx, hd, hm', hret, hn]
  first | (intro acts; rw [hl _ acts rfl rfl rfl]) | rw [hl _ _ rfl rfl rfl]
  exact Steps.refl _
theorem own_nar01 {z : Int32} (h : z = 0 ∨ z = 1) : narrow .boolean (.int z) = .int z := by rcases h with rfl | rfl <;> rfl
theorem own_fit01 {z : Int32} (h : z = 0 ∨ z = 1) : fits .boolean (.int z) = true := by rcases h with rfl | rfl <;> decide
theorem own_retZ (X : Stand p l e R s m args below meth c T locs cells slots) (hx : p.tables.exec = Jvm.exec) {pc : Nat} {Ls : Array Slot} {z : Int32} {rest : List Value} (hret : meth.sig.returnType = some .boolean) (hz : z = 0 ∨ z = 1) (hd : decode c.code pc = .ok (.ireturn, 1)) {fs : List Frame}
    (hl : ∀ (f : JFrame) (acts : List Action), f.method = m → f.locked = none → f.entered = [] → (doReturn e (T.setTop f) acts (some (.int z))).1 = T.setFrames fs) : Steps p.tables e below (T.setTop (mkF m pc Ls (.int z :: rest))) (T.setFrames fs) := by
  have hm' : T.vm.method? m = some meth := X.method'
  have hn : narrow .boolean (.int z) = .int z := own_nar01 hz
  show Steps p.tables e below (T.setTop { method := m, pc := pc, locals := Ls, stack := _ :: rest, locked := none }) _
  jvm_step X.here [X.here.top, hx, hd, hm', hret, hn]
  first | (intro acts; rw [hl _ acts rfl rfl rfl]) | rw [hl _ _ rfl rfl rfl]
  exact Steps.refl _
end New
section Own
variable {Z : State} {h h' : Heap} {C n d : String} {w : Value} {a : Addr}
theorem own_sta_keep (F : Sta Z h C n d w) {ws : List Addr} (K : Keep h h' ws) (q : ∀ (st : Addr) (cell : Cell), h[st]? = some cell → cell.vm.isStatics = true → st ∉ ws) : Sta Z h' C n d w := by
  obtain ⟨cf, i, k, f, st, cell, h1, h2, h3, h4, h5, h6, h7⟩ := F
  exact ⟨cf, i, k, f, st, cell, h1, h2, h3, h4, K.2.1 st cell h5 (q st cell h5 h6), h6, h7⟩
theorem own_eqf {args : Array Value} {s : State} {t : Term} {C n d : String} {k : Int32} {x : Addr} (h : (Jvm.Cond.eq (.field t C n d) (.int k)).value args s none s [] = some true) (ht : t.eval args s none [] s = some (.ref x)) : s.fieldOf? x C n d = some (.int k) := by
  simp only [Cond.value, Term.eval, ht, Option.bind_eq_bind, Option.bind_some] at h
  cases hv : s.fieldOf? x C n d with
  | none => simp [hv] at h
  | some v => cases v <;> simp_all
theorem own_eqL {args : Array Value} {s : State} {t : Term} {k : Int64} (h : (Jvm.Cond.eq t (.long k)).value args s none s [] = some true) : t.eval args s none [] s = some (.long k) := by
  simp only [Cond.value, Term.eval] at h
  cases hv : t.eval args s none [] s with
  | none => simp [hv] at h
  | some v => cases v <;> simp_all
theorem own_sta_keep0 (F : Sta Z h C n d w) (K : Keep h h' []) : Sta Z h' C n d w := own_sta_keep F K fun _ _ _ _ q => nomatch q
theorem own_sta_keep1 (F : Sta Z h C n d w) (K : Keep h h' [a]) {C' : String} (E : Exa Z h a C') : Sta Z h' C n d w := own_sta_keep F K fun st cell h1 h2 q => by
  cases List.mem_singleton.mp q
  obtain ⟨c2, _, g1, -, -, g4, -⟩ := E
  cases h1.symm.trans g1
  rw [h2] at g4; cases g4
end Own
end Jvm.RoadKit
namespace Jvm.Pilot.@@N@@
open Jvm Jvm.ClassFile Sem Op Lib Jvm.Free Jvm.Stand Jvm.LawKit Jvm.RoadKit Bundle Jvm.Pilot.@@N@@.Jvm.D
def own_m (q : Int64) : Int64 := q &&& 4611686018427387903
def own_minL (x y : Int64) : Int64 := if y < x then y else x
def own_exp (f l : Int64) (k : Int32) : Int64 := if k = 0 then f else if l >>> (k &&& 0x3f).toInt64 < f then l else f <<< (k &&& 0x3f).toInt64
theorem own_m_rng (q : Int64) : 0 ≤ (own_m q).toInt ∧ (own_m q).toInt < 4611686018427387904 := by
  have h1 : (q &&& 4611686018427387903).toInt = q.toInt % (2 ^ 62 : Nat) := c_maskL q 4611686018427387903 62 (by decide) (by decide)
  unfold own_m
  omega
theorem own_min_val (x y : Int64) : (own_minL x y).toInt = min x.toInt y.toInt := by
  unfold own_minL
  split
  · rename_i h; rw [Int64.lt_iff_toInt_lt] at h; omega
  · rename_i h; rw [Int64.lt_iff_toInt_lt] at h; omega
theorem own_two (x : Int64) (h0 : 0 ≤ x.toInt) (h1 : x.toInt < 4611686018427387904) : ((2 : Int64) * x).toInt = 2 * x.toInt := by
  have h := c_lmul 2 x
  have k : (2 : Int64).toInt = 2 := by decide
  have r := rng64 (2 * x)
  rw [k] at h
  omega
theorem own_step (w l : Int64) (n : Int) (f : Int) (hf : 0 ≤ f) (h0 : 0 ≤ w.toInt) (h1 : w.toInt < 4611686018427387904) (l0 : 0 ≤ l.toInt) (l1 : l.toInt < 4611686018427387904) (hw : min w.toInt l.toInt = min (n * f) l.toInt) :
    0 ≤ (own_minL (2 * w) l).toInt ∧ (own_minL (2 * w) l).toInt < 4611686018427387904 ∧ (own_minL (2 * w) l).toInt = min (2 * (n * f)) l.toInt := by
  have a := own_min_val (2 * w) l
  have b := own_two w h0 h1
  rw [b] at a
  generalize n * f = z at *
  omega
theorem own_exp_val (f l : Int64) (k : Int32) (n : Nat) (hk : k.toBitVec.toNat % 64 = n) (hn : 0 < n) (hn4 : n ≤ 4) (k0 : ¬ k = 0) (f0 : 0 ≤ f.toInt) (f1 : f.toInt < 4611686018427387904) (l0 : 0 ≤ l.toInt) (l1 : l.toInt < 4611686018427387904) :
    (own_exp f l k).toInt = min ((2 ^ n : Nat) * f.toInt) l.toInt := by
  have a := c_lshr l k n hk
  have b := c_lshl f k n hk
  have r := rng64 (f <<< (k &&& 0x3f).toInt64)
  unfold own_exp
  rw [if_neg k0]
  have hcase : n = 1 ∨ n = 2 ∨ n = 3 ∨ n = 4 := by omega
  split
  · rename_i h; rw [Int64.lt_iff_toInt_lt, a] at h
    rcases hcase with rfl | rfl | rfl | rfl <;> omega
  · rename_i h; rw [Int64.lt_iff_toInt_lt, a] at h
    rcases hcase with rfl | rfl | rfl | rfl <;> omega
theorem own_law (q1 q2 : Int64) : own_m q1 = own_exp (own_m q1) (own_m q2) 0
    ∧ own_minL (2 * own_m q1) (own_m q2) = own_exp (own_m q1) (own_m q2) 1
    ∧ own_minL (2 * own_minL (2 * own_m q1) (own_m q2)) (own_m q2) = own_exp (own_m q1) (own_m q2) 2
    ∧ own_minL (2 * own_minL (2 * own_minL (2 * own_m q1) (own_m q2)) (own_m q2)) (own_m q2) = own_exp (own_m q1) (own_m q2) 3
    ∧ own_minL (2 * own_minL (2 * own_minL (2 * own_minL (2 * own_m q1) (own_m q2)) (own_m q2)) (own_m q2)) (own_m q2) = own_exp (own_m q1) (own_m q2) 4 := by
  obtain ⟨f0, f1⟩ := own_m_rng q1
  obtain ⟨l0, l1⟩ := own_m_rng q2
  generalize own_m q1 = f at *
  generalize own_m q2 = l at *
  have s1 := own_step f l 1 f.toInt f0 f0 f1 l0 l1 (by rw [Int.one_mul])
  have s2 := own_step _ l 2 f.toInt f0 s1.1 s1.2.1 l0 l1 (by have := s1.2.2; omega)
  have s3 := own_step _ l 4 f.toInt f0 s2.1 s2.2.1 l0 l1 (by have := s2.2.2; omega)
  have s4 := own_step _ l 8 f.toInt f0 s3.1 s3.2.1 l0 l1 (by have := s3.2.2; omega)
  have e1 := own_exp_val f l 1 1 (by decide) (by decide) (by decide) (by decide) f0 f1 l0 l1
  have e2 := own_exp_val f l 2 2 (by decide) (by decide) (by decide) (by decide) f0 f1 l0 l1
  have e3 := own_exp_val f l 3 3 (by decide) (by decide) (by decide) (by decide) f0 f1 l0 l1
  have e4 := own_exp_val f l 4 4 (by decide) (by decide) (by decide) (by decide) f0 f1 l0 l1
  refine ⟨by simp [own_exp], Int64.toInt_inj.mp ?_, Int64.toInt_inj.mp ?_, Int64.toInt_inj.mp ?_, Int64.toInt_inj.mp ?_⟩
  · rw [e1, s1.2.2]; omega
  · rw [e2, s2.2.2]; omega
  · rw [e3, s3.2.2]; omega
  · rw [e4, s4.2.2]; omega
theorem d_prog_8_method_2_code_0 : decode prog_8_method_2_code 0 = .ok (.aload_n 0, 1) := by decide +kernel
theorem d_prog_8_method_2_code_1 : decode prog_8_method_2_code 1 = .ok (.invokespecial 11, 3) := by decide +kernel
theorem d_prog_8_method_2_code_4 : decode prog_8_method_2_code 4 = .ok (.aload_n 0, 1) := by decide +kernel
theorem d_prog_8_method_2_code_5 : decode prog_8_method_2_code 5 = .ok (.lload_n 1, 1) := by decide +kernel
theorem d_prog_8_method_2_code_6 : decode prog_8_method_2_code 6 = .ok (.putfield 16, 3) := by decide +kernel
theorem d_prog_8_method_2_code_9 : decode prog_8_method_2_code 9 = .ok (.aload_n 0, 1) := by decide +kernel
theorem d_prog_8_method_2_code_10 : decode prog_8_method_2_code 10 = .ok (.lload_n 3, 1) := by decide +kernel
theorem d_prog_8_method_2_code_11 : decode prog_8_method_2_code 11 = .ok (.putfield 20, 3) := by decide +kernel
theorem d_prog_8_method_2_code_14 : decode prog_8_method_2_code 14 = .ok (.aload_n 0, 1) := by decide +kernel
theorem d_prog_8_method_2_code_15 : decode prog_8_method_2_code 15 = .ok (.lload_n 1, 1) := by decide +kernel
theorem d_prog_8_method_2_code_16 : decode prog_8_method_2_code 16 = .ok (.putfield 23, 3) := by decide +kernel
theorem d_prog_8_method_2_code_19 : decode prog_8_method_2_code 19 = .ok (.return_, 1) := by decide +kernel
def Q_rmI (Z : State) (a1 : Addr) (q2 : Int64) (q3 : Int64) (h0 : Heap) (n0 : Nat) (v : Option Value) (h : Heap) (L : List Loc) : Prop := v = none ∧ Fr n0 L ∧ Keep h0 h [a1] ∧ Fld Z h a1 "com/example/nabu/nabu/relay/Backoff" "firstWaitMillis" "J" (.long q2) ∧ Fld Z h a1 "com/example/nabu/nabu/relay/Backoff" "lastWaitMillis" "J" (.long q3) ∧ Fld Z h a1 "com/example/nabu/nabu/relay/Backoff" "nextWaitMillis" "J" (.long q2)
theorem pn_0 : plainName "com/example/nabu/nabu/relay/Backoff" = true := by first | (simp [plainName, overriddenIn]; done) | decide +kernel
theorem ef_0 (m : MethodId) (x0 : Addr) (x1 : Int64) (x2 : Int64) : entryFrame m #[(.ref x0), (.long x1), (.long x2)] 5 = mkF m 0 #[.val (.ref x0), .val (.long x1), .second, .val (.long x2), .second] [] := by first | (simp [entryFrame, mkF, argsToLocals, Value.category]; done) | rfl
set_option maxRecDepth 65536 in
set_option maxHeartbeats 40000000 in
theorem rmI (l : Launch) (Z : State) (a0 : Array Value) (hw : ∀ d ∈ tables_1, d.before a0 Z = true) (ws : List Jvm.Cond) (a1 : Addr) (q2 : Int64) (q3 : Int64) (h0 : Heap) (n0 : Nat) (Z0 : n0 ≤ h0.size) (F_firstWaitMillis_a1 : Fld Z h0 a1 "com/example/nabu/nabu/relay/Backoff" "firstWaitMillis" "J" (.long (0 : Int64))) (F_lastWaitMillis_a1 : Fld Z h0 a1 "com/example/nabu/nabu/relay/Backoff" "lastWaitMillis" "J" (.long (0 : Int64))) (F_nextWaitMillis_a1 : Fld Z h0 a1 "com/example/nabu/nabu/relay/Backoff" "nextWaitMillis" "J" (.long (0 : Int64))) (E_a1 : Exa Z h0 a1 "com/example/nabu/nabu/relay/Backoff") (g_a1 : n0 ≤ a1) :
    MetFree l (⟨"com/example/nabu/nabu/relay/Backoff", "<init>", "(JJ)V"⟩ : MethodName) (head1 (Jvm.Cond.code (⟨"com/example/nabu/nabu/relay/Backoff", "<init>", "(JJ)V"⟩ : MethodName) prog_8_method_2_code 5 none :: ws) ({ frames := 1, cells := 0, slots := 0, locals := 12 } : Room)) (fun a U => a = #[(.ref a1), (.long q2), (.long q3)] ∧ Z.Warmed39 U.vm ∧ U.heap = h0) (fun _ _ _ _ _ => True) (fun _ U o U' => ∃ v L, o = .returned v ∧ Q_rmI Z a1 q2 q3 h0 n0 v U'.heap L ∧ FrameEnd U o U' L ({ frames := 1, cells := 0, slots := 0, locals := 12 } : Room).cells ({ frames := 1, cells := 0, slots := 0, locals := 12 } : Room).slots) := by
  refine MetFree.of_bodySF (plainFor_of_name pn_0) hisR ?_
  intro p e s m args below meth c s₁ Bd hml0 hP hK
  obtain ⟨rfl, hZ, hh⟩ := hP
  have hx := Bd.exec
  have hby := Bd.bytes
  have hml : c.maxLocals = 5 := hml0
  have hown : s.vm.findClass "com/example/nabu/nabu/relay/Backoff" = some m.cls := findClass_of_methodNamed Bd.named
  have hnm := (name_of_methodNamed Bd.named Bd.method).1
  have X0 : Stand p l e ({ frames := 1, cells := 0, slots := 0, locals := 12 } : Room) s m #[(.ref a1), (.long q2), (.long q3)] below meth c s₁ [] 0 0 := Stand.of_body Bd
  have e0 : s₁.heap = h0 := by rw [← hh, Bd.state]; rfl
  have N0 := Fr.nil n0
  have pre0 : ∀ t, Steps p.tables e below (s₁.setTop (mkF m 0 #[.val (.ref a1), .val (.long q2), .second, .val (.long q3), .second] [])) t → Steps p.tables e below (s₁.setTop (entryFrame m #[(.ref a1), (.long q2), (.long q3)] 5)) t := fun t k => castTop (ef_0 m a1 q2 q3) k
  obtain ⟨T1, X1, e1, st1⟩ := initO X0 hx hZ hown (hw _ (List.mem_of_getElem? (i := 7) rfl)) (hw _ (List.mem_of_getElem? (i := 8) rfl)) (hw _ (List.mem_of_getElem? (i := 9) rfl)) e0 (g := (mkF m 1 #[.val (.ref a1), .val (.long q2), .second, .val (.long q3), .second] [(.ref a1)])) rfl (by rw [hml]; rfl) rfl (hb hby d_prog_8_method_2_code_1) (by decide) (W := 0) (by show 2 * 0 + _ ≤ _; exact Nat.le_of_eq rfl) (by decide)
  obtain ⟨T2, h2, X2, e2, W2, st2⟩ := putF X1 hx hZ hown (host := "") (Or.inl (hw _ (List.mem_of_getElem? (i := 10) rfl))) Via.refl e1 F_firstWaitMillis_a1 E_a1 (Or.inr ⟨(hw _ (List.mem_of_getElem? (i := 11) rfl)), rfl, hnm⟩) (hw _ (List.mem_of_getElem? (i := 2) rfl)) (ty := .long) (by decide) rfl rfl (g := (mkF m 6 #[.val (.ref a1), .val (.long q2), .second, .val (.long q3), .second] [(.long q2), (.ref a1)])) rfl rfl (hb hby d_prog_8_method_2_code_6)
  have Fw2 := F_firstWaitMillis_a1.same W2
  have Q2 : Keep h0 h2 [a1] := (Keep.refl h0 [a1]).wr W2 (Or.inl (List.mem_of_getElem? (i := 0) rfl))
  have N2 := Fr.snoc X2 N0 g_a1
  obtain ⟨T3, h3, X3, e3, W3, st3⟩ := putF X2 hx hZ hown (host := "") (Or.inl (hw _ (List.mem_of_getElem? (i := 12) rfl))) Via.refl e2 (F_lastWaitMillis_a1.other W2 (Or.inr (slot_ne (Or.inr (hw _ (List.mem_of_getElem? (i := 13) rfl))) (Or.inr (hw _ (List.mem_of_getElem? (i := 11) rfl))) (by decide) (t := .long) (t' := .long) (by decide) (by decide)))) (E_a1.wr W2) (Or.inr ⟨(hw _ (List.mem_of_getElem? (i := 13) rfl)), rfl, hnm⟩) (hw _ (List.mem_of_getElem? (i := 2) rfl)) (ty := .long) (by decide) rfl rfl (g := (mkF m 11 #[.val (.ref a1), .val (.long q2), .second, .val (.long q3), .second] [(.long q3), (.ref a1)])) rfl rfl (hb hby d_prog_8_method_2_code_11)
  have Fw3 := (F_lastWaitMillis_a1.other W2 (Or.inr (slot_ne (Or.inr (hw _ (List.mem_of_getElem? (i := 13) rfl))) (Or.inr (hw _ (List.mem_of_getElem? (i := 11) rfl))) (by decide) (t := .long) (t' := .long) (by decide) (by decide)))).same W3
  have Q3 : Keep h0 h3 [a1] := Q2.wr W3 (Or.inl (List.mem_of_getElem? (i := 0) rfl))
  have N3 := Fr.snoc X3 N2 g_a1
  obtain ⟨T4, h4, X4, e4, W4, st4⟩ := putF X3 hx hZ hown (host := "") (Or.inl (hw _ (List.mem_of_getElem? (i := 14) rfl))) Via.refl e3 ((F_nextWaitMillis_a1.other W2 (Or.inr (slot_ne (Or.inl (hw _ (List.mem_of_getElem? (i := 15) rfl))) (Or.inr (hw _ (List.mem_of_getElem? (i := 11) rfl))) (by decide) (t := .long) (t' := .long) (by decide) (by decide)))).other W3 (Or.inr (slot_ne (Or.inl (hw _ (List.mem_of_getElem? (i := 15) rfl))) (Or.inr (hw _ (List.mem_of_getElem? (i := 13) rfl))) (by decide) (t := .long) (t' := .long) (by decide) (by decide)))) ((E_a1.wr W2).wr W3) (Or.inl (hw _ (List.mem_of_getElem? (i := 15) rfl))) (hw _ (List.mem_of_getElem? (i := 2) rfl)) (ty := .long) (by decide) rfl rfl (g := (mkF m 16 #[.val (.ref a1), .val (.long q2), .second, .val (.long q3), .second] [(.long q2), (.ref a1)])) rfl rfl (hb hby d_prog_8_method_2_code_16)
  have Fw4 := ((F_nextWaitMillis_a1.other W2 (Or.inr (slot_ne (Or.inl (hw _ (List.mem_of_getElem? (i := 15) rfl))) (Or.inr (hw _ (List.mem_of_getElem? (i := 11) rfl))) (by decide) (t := .long) (t' := .long) (by decide) (by decide)))).other W3 (Or.inr (slot_ne (Or.inl (hw _ (List.mem_of_getElem? (i := 15) rfl))) (Or.inr (hw _ (List.mem_of_getElem? (i := 13) rfl))) (by decide) (t := .long) (t' := .long) (by decide) (by decide)))).same W4
  have Q4 : Keep h0 h4 [a1] := Q3.wr W4 (Or.inl (List.mem_of_getElem? (i := 0) rfl))
  have N4 := Fr.snoc X4 N3 g_a1
  obtain ⟨fs, hr, hrun, hended, hW, hsame⟩ := X4.leave (v := none) (fun _ => rfl)
  refine ⟨_, _, pre0 _ ?_, hrun, hended, _, _, rfl, ?_, ⟨_, rfl⟩, hW, hsame.mono (by decide) (by decide)⟩
  · show Steps p.tables e below (s₁.setTop (mkF m 0 #[.val (.ref a1), .val (.long q2), .second, .val (.long q3), .second] [])) _
    refine XS.aloadN X0.here hx rfl (hb hby d_prog_8_method_2_code_0) rfl rfl ?_
    show Steps p.tables e below (s₁.setTop (mkF m 1 #[.val (.ref a1), .val (.long q2), .second, .val (.long q3), .second] [(.ref a1)])) _
    refine st1 _ ?_
    show Steps p.tables e below (T1.setTop (mkF m 4 #[.val (.ref a1), .val (.long q2), .second, .val (.long q3), .second] [])) _
    refine XS.aloadN X1.here hx rfl (hb hby d_prog_8_method_2_code_4) rfl rfl ?_
    show Steps p.tables e below (T1.setTop (mkF m 5 #[.val (.ref a1), .val (.long q2), .second, .val (.long q3), .second] [(.ref a1)])) _
    refine XS.lloadN X1.here hx rfl (hb hby d_prog_8_method_2_code_5) rfl ?_
    show Steps p.tables e below (T1.setTop (mkF m 6 #[.val (.ref a1), .val (.long q2), .second, .val (.long q3), .second] [(.long q2), (.ref a1)])) _
    refine st2 _ ?_
    show Steps p.tables e below (T2.setTop (mkF m 9 #[.val (.ref a1), .val (.long q2), .second, .val (.long q3), .second] [])) _
    refine XS.aloadN X2.here hx rfl (hb hby d_prog_8_method_2_code_9) rfl rfl ?_
    show Steps p.tables e below (T2.setTop (mkF m 10 #[.val (.ref a1), .val (.long q2), .second, .val (.long q3), .second] [(.ref a1)])) _
    refine XS.lloadN X2.here hx rfl (hb hby d_prog_8_method_2_code_10) rfl ?_
    show Steps p.tables e below (T2.setTop (mkF m 11 #[.val (.ref a1), .val (.long q2), .second, .val (.long q3), .second] [(.long q3), (.ref a1)])) _
    refine st3 _ ?_
    show Steps p.tables e below (T3.setTop (mkF m 14 #[.val (.ref a1), .val (.long q2), .second, .val (.long q3), .second] [])) _
    refine XS.aloadN X3.here hx rfl (hb hby d_prog_8_method_2_code_14) rfl rfl ?_
    show Steps p.tables e below (T3.setTop (mkF m 15 #[.val (.ref a1), .val (.long q2), .second, .val (.long q3), .second] [(.ref a1)])) _
    refine XS.lloadN X3.here hx rfl (hb hby d_prog_8_method_2_code_15) rfl ?_
    show Steps p.tables e below (T3.setTop (mkF m 16 #[.val (.ref a1), .val (.long q2), .second, .val (.long q3), .second] [(.long q2), (.ref a1)])) _
    refine st4 _ ?_
    show Steps p.tables e below (T4.setTop (mkF m 19 #[.val (.ref a1), .val (.long q2), .second, .val (.long q3), .second] [])) _
    exact X4.returnOut hx Bd.returns (hb hby d_prog_8_method_2_code_19) hr
  · show Q_rmI Z a1 q2 q3 h0 n0 _ T4.heap _
    rw [e4]
    exact ⟨rfl, N4, Q4, ((Fw2.other W3 (Or.inr (slot_ne (Or.inr (hw _ (List.mem_of_getElem? (i := 11) rfl))) (Or.inr (hw _ (List.mem_of_getElem? (i := 13) rfl))) (by decide) (t := .long) (t' := .long) (by decide) (by decide)))).other W4 (Or.inr (slot_ne (Or.inr (hw _ (List.mem_of_getElem? (i := 11) rfl))) (Or.inl (hw _ (List.mem_of_getElem? (i := 15) rfl))) (by decide) (t := .long) (t' := .long) (by decide) (by decide)))), (Fw3.other W4 (Or.inr (slot_ne (Or.inr (hw _ (List.mem_of_getElem? (i := 13) rfl))) (Or.inl (hw _ (List.mem_of_getElem? (i := 15) rfl))) (by decide) (t := .long) (t' := .long) (by decide) (by decide)))), Fw4⟩
theorem d_jdk_29_method_70_code_0 : decode jdk_29_method_70_code 0 = .ok (.lload_n 0, 1) := by decide +kernel
theorem d_jdk_29_method_70_code_1 : decode jdk_29_method_70_code 1 = .ok (.lload_n 2, 1) := by decide +kernel
theorem d_jdk_29_method_70_code_2 : decode jdk_29_method_70_code 2 = .ok (.lcmp, 1) := by decide +kernel
theorem d_jdk_29_method_70_code_3 : decode jdk_29_method_70_code 3 = .ok (.ifCond .gt 7, 3) := by decide +kernel
theorem d_jdk_29_method_70_code_10 : decode jdk_29_method_70_code 10 = .ok (.lload_n 2, 1) := by decide +kernel
theorem d_jdk_29_method_70_code_11 : decode jdk_29_method_70_code 11 = .ok (.lreturn, 1) := by decide +kernel
theorem d_jdk_29_method_70_code_6 : decode jdk_29_method_70_code 6 = .ok (.lload_n 0, 1) := by decide +kernel
theorem d_jdk_29_method_70_code_7 : decode jdk_29_method_70_code 7 = .ok (.goto 4, 3) := by decide +kernel
def Q_rmM (Z : State) (q1 : Int64) (q2 : Int64) (h0 : Heap) (n0 : Nat) (v : Option Value) (h : Heap) (L : List Loc) : Prop := v = some (.long (own_minL q1 q2)) ∧ Fr n0 L ∧ h = h0
theorem ef_1 (m : MethodId) (x0 : Int64) (x1 : Int64) : entryFrame m #[(.long x0), (.long x1)] 4 = mkF m 0 #[.val (.long x0), .second, .val (.long x1), .second] [] := by first | (simp [entryFrame, mkF, argsToLocals, Value.category]; done) | rfl
set_option maxRecDepth 65536 in
set_option maxHeartbeats 40000000 in
theorem rmM_t (l : Launch) (Z : State) (a0 : Array Value) (hw : ∀ d ∈ tables_1, d.before a0 Z = true) (ws : List Jvm.Cond) (q1 : Int64) (q2 : Int64) (h0 : Heap) (n0 : Nat) (Z0 : n0 ≤ h0.size) (hc3 : q2 < q1) (hres : (own_minL q1 q2) = q2) :
    MetFree l (⟨"java/lang/Math", "min", "(JJ)J"⟩ : MethodName) (head1 (Jvm.Cond.code (⟨"java/lang/Math", "min", "(JJ)J"⟩ : MethodName) jdk_29_method_70_code 4 (some .long) :: ws) ({ frames := 0, cells := 0, slots := 0, locals := 0 } : Room)) (fun a U => a = #[(.long q1), (.long q2)] ∧ Z.Warmed39 U.vm ∧ U.heap = h0) (fun _ _ _ _ _ => True) (fun _ U o U' => ∃ v L, o = .returned v ∧ Q_rmM Z q1 q2 h0 n0 v U'.heap L ∧ FrameEnd U o U' L ({ frames := 0, cells := 0, slots := 0, locals := 0 } : Room).cells ({ frames := 0, cells := 0, slots := 0, locals := 0 } : Room).slots) := by
  refine MetFree.of_bodySF (Jvm.Free.JP.mathPlain rfl (by decide +kernel)) hisR ?_
  intro p e s m args below meth c s₁ Bd hml0 hP hK
  obtain ⟨rfl, hZ, hh⟩ := hP
  have hx := Bd.exec
  have hby := Bd.bytes
  have hml : c.maxLocals = 4 := hml0
  have hown : s.vm.findClass "java/lang/Math" = some m.cls := findClass_of_methodNamed Bd.named
  have hnm := (name_of_methodNamed Bd.named Bd.method).1
  have X0 : Stand p l e ({ frames := 0, cells := 0, slots := 0, locals := 0 } : Room) s m #[(.long q1), (.long q2)] below meth c s₁ [] 0 0 := Stand.of_body Bd
  have e0 : s₁.heap = h0 := by rw [← hh, Bd.state]; rfl
  have N0 := Fr.nil n0
  have pre0 : ∀ t, Steps p.tables e below (s₁.setTop (mkF m 0 #[.val (.long q1), .second, .val (.long q2), .second] [])) t → Steps p.tables e below (s₁.setTop (entryFrame m #[(.long q1), (.long q2)] 4)) t := fun t k => castTop (ef_1 m q1 q2) k
  obtain ⟨fs, hr, hrun, hended, hW, hsame⟩ := X0.leave (v := some (.long q2)) (fun h => by rw [Bd.returns] at h; cases h)
  refine ⟨_, _, pre0 _ ?_, hrun, hended, _, _, rfl, ?_, ⟨_, rfl⟩, hW, hsame.mono (by decide) (by decide)⟩
  · show Steps p.tables e below (s₁.setTop (mkF m 0 #[.val (.long q1), .second, .val (.long q2), .second] [])) _
    refine XS.lloadN X0.here hx rfl (hb hby d_jdk_29_method_70_code_0) rfl ?_
    show Steps p.tables e below (s₁.setTop (mkF m 1 #[.val (.long q1), .second, .val (.long q2), .second] [(.long q1)])) _
    refine XS.lloadN X0.here hx rfl (hb hby d_jdk_29_method_70_code_1) rfl ?_
    show Steps p.tables e below (s₁.setTop (mkF m 2 #[.val (.long q1), .second, .val (.long q2), .second] [(.long q2), (.long q1)])) _
    refine XS.lcmp X0.here hx rfl (hb hby d_jdk_29_method_70_code_2) rfl ?_
    show Steps p.tables e below (s₁.setTop (mkF m 3 #[.val (.long q1), .second, .val (.long q2), .second] [(.int (lcmpW q1 q2))])) _
    refine XS.ifYes X0.here hx rfl (pc0 := 3) (pc' := 10) rfl (hb hby d_jdk_29_method_70_code_3) rfl ((if0 _ _).trans (tlt ((lw_gt q1 q2).mpr hc3)).2.2.1) (by decide) (by decide) ?_
    show Steps p.tables e below (s₁.setTop (mkF m 10 #[.val (.long q1), .second, .val (.long q2), .second] [])) _
    refine XS.lloadN X0.here hx rfl (hb hby d_jdk_29_method_70_code_10) rfl ?_
    show Steps p.tables e below (s₁.setTop (mkF m 11 #[.val (.long q1), .second, .val (.long q2), .second] [(.long q2)])) _
    exact X0.lreturnOut hx Bd.returns (hb hby d_jdk_29_method_70_code_11) hr
  · show Q_rmM Z q1 q2 h0 n0 _ s₁.heap _
    rw [e0]
    exact ⟨by rw [hres], N0, rfl⟩
set_option maxRecDepth 65536 in
set_option maxHeartbeats 40000000 in
theorem rmM_f (l : Launch) (Z : State) (a0 : Array Value) (hw : ∀ d ∈ tables_1, d.before a0 Z = true) (ws : List Jvm.Cond) (q1 : Int64) (q2 : Int64) (h0 : Heap) (n0 : Nat) (Z0 : n0 ≤ h0.size) (hc3 : ¬ (q2 < q1)) (hres : (own_minL q1 q2) = q1) :
    MetFree l (⟨"java/lang/Math", "min", "(JJ)J"⟩ : MethodName) (head1 (Jvm.Cond.code (⟨"java/lang/Math", "min", "(JJ)J"⟩ : MethodName) jdk_29_method_70_code 4 (some .long) :: ws) ({ frames := 0, cells := 0, slots := 0, locals := 0 } : Room)) (fun a U => a = #[(.long q1), (.long q2)] ∧ Z.Warmed39 U.vm ∧ U.heap = h0) (fun _ _ _ _ _ => True) (fun _ U o U' => ∃ v L, o = .returned v ∧ Q_rmM Z q1 q2 h0 n0 v U'.heap L ∧ FrameEnd U o U' L ({ frames := 0, cells := 0, slots := 0, locals := 0 } : Room).cells ({ frames := 0, cells := 0, slots := 0, locals := 0 } : Room).slots) := by
  refine MetFree.of_bodySF (Jvm.Free.JP.mathPlain rfl (by decide +kernel)) hisR ?_
  intro p e s m args below meth c s₁ Bd hml0 hP hK
  obtain ⟨rfl, hZ, hh⟩ := hP
  have hx := Bd.exec
  have hby := Bd.bytes
  have hml : c.maxLocals = 4 := hml0
  have hown : s.vm.findClass "java/lang/Math" = some m.cls := findClass_of_methodNamed Bd.named
  have hnm := (name_of_methodNamed Bd.named Bd.method).1
  have X0 : Stand p l e ({ frames := 0, cells := 0, slots := 0, locals := 0 } : Room) s m #[(.long q1), (.long q2)] below meth c s₁ [] 0 0 := Stand.of_body Bd
  have e0 : s₁.heap = h0 := by rw [← hh, Bd.state]; rfl
  have N0 := Fr.nil n0
  have pre0 : ∀ t, Steps p.tables e below (s₁.setTop (mkF m 0 #[.val (.long q1), .second, .val (.long q2), .second] [])) t → Steps p.tables e below (s₁.setTop (entryFrame m #[(.long q1), (.long q2)] 4)) t := fun t k => castTop (ef_1 m q1 q2) k
  obtain ⟨fs, hr, hrun, hended, hW, hsame⟩ := X0.leave (v := some (.long q1)) (fun h => by rw [Bd.returns] at h; cases h)
  refine ⟨_, _, pre0 _ ?_, hrun, hended, _, _, rfl, ?_, ⟨_, rfl⟩, hW, hsame.mono (by decide) (by decide)⟩
  · show Steps p.tables e below (s₁.setTop (mkF m 0 #[.val (.long q1), .second, .val (.long q2), .second] [])) _
    refine XS.lloadN X0.here hx rfl (hb hby d_jdk_29_method_70_code_0) rfl ?_
    show Steps p.tables e below (s₁.setTop (mkF m 1 #[.val (.long q1), .second, .val (.long q2), .second] [(.long q1)])) _
    refine XS.lloadN X0.here hx rfl (hb hby d_jdk_29_method_70_code_1) rfl ?_
    show Steps p.tables e below (s₁.setTop (mkF m 2 #[.val (.long q1), .second, .val (.long q2), .second] [(.long q2), (.long q1)])) _
    refine XS.lcmp X0.here hx rfl (hb hby d_jdk_29_method_70_code_2) rfl ?_
    show Steps p.tables e below (s₁.setTop (mkF m 3 #[.val (.long q1), .second, .val (.long q2), .second] [(.int (lcmpW q1 q2))])) _
    refine XS.ifNo X0.here hx rfl (hb hby d_jdk_29_method_70_code_3) rfl ((if0 _ _).trans (flt (mt (lw_gt q1 q2).mp hc3)).2.2.1) ?_
    show Steps p.tables e below (s₁.setTop (mkF m 6 #[.val (.long q1), .second, .val (.long q2), .second] [])) _
    refine XS.lloadN X0.here hx rfl (hb hby d_jdk_29_method_70_code_6) rfl ?_
    show Steps p.tables e below (s₁.setTop (mkF m 7 #[.val (.long q1), .second, .val (.long q2), .second] [(.long q1)])) _
    refine XS.goto X0.here hx rfl (pc0 := 7) (pc' := 11) rfl (hb hby d_jdk_29_method_70_code_7) (by decide) (by decide) ?_
    show Steps p.tables e below (s₁.setTop (mkF m 11 #[.val (.long q1), .second, .val (.long q2), .second] [(.long q1)])) _
    exact X0.lreturnOut hx Bd.returns (hb hby d_jdk_29_method_70_code_11) hr
  · show Q_rmM Z q1 q2 h0 n0 _ s₁.heap _
    rw [e0]
    exact ⟨by rw [hres], N0, rfl⟩
theorem rmM (l : Launch) (Z : State) (a0 : Array Value) (hw : ∀ d ∈ tables_1, d.before a0 Z = true) (ws : List Jvm.Cond) (q1 : Int64) (q2 : Int64) (h0 : Heap) (n0 : Nat) (Z0 : n0 ≤ h0.size) :
    MetFree l (⟨"java/lang/Math", "min", "(JJ)J"⟩ : MethodName) (head1 (Jvm.Cond.code (⟨"java/lang/Math", "min", "(JJ)J"⟩ : MethodName) jdk_29_method_70_code 4 (some .long) :: ws) ({ frames := 0, cells := 0, slots := 0, locals := 0 } : Room)) (fun a U => a = #[(.long q1), (.long q2)] ∧ Z.Warmed39 U.vm ∧ U.heap = h0) (fun _ _ _ _ _ => True) (fun _ U o U' => ∃ v L, o = .returned v ∧ Q_rmM Z q1 q2 h0 n0 v U'.heap L ∧ FrameEnd U o U' L ({ frames := 0, cells := 0, slots := 0, locals := 0 } : Room).cells ({ frames := 0, cells := 0, slots := 0, locals := 0 } : Room).slots) := by
  by_cases hc3 : q2 < q1
  · skip
    exact rmM_t l Z a0 hw ws q1 q2 h0 n0 Z0 hc3 (by unfold own_minL; simp [hc3])
  · skip
    exact rmM_f l Z a0 hw ws q1 q2 h0 n0 Z0 hc3 (by unfold own_minL; simp [hc3])
theorem d_prog_8_method_3_code_0 : decode prog_8_method_3_code 0 = .ok (.aload_n 0, 1) := by decide +kernel
theorem d_prog_8_method_3_code_1 : decode prog_8_method_3_code 1 = .ok (.getfield 23, 3) := by decide +kernel
theorem d_prog_8_method_3_code_4 : decode prog_8_method_3_code 4 = .ok (.lstore_n 1, 1) := by decide +kernel
theorem d_prog_8_method_3_code_5 : decode prog_8_method_3_code 5 = .ok (.aload_n 0, 1) := by decide +kernel
theorem d_prog_8_method_3_code_6 : decode prog_8_method_3_code 6 = .ok (.ldc2_w 26, 3) := by decide +kernel
theorem d_prog_8_method_3_code_9 : decode prog_8_method_3_code 9 = .ok (.aload_n 0, 1) := by decide +kernel
theorem d_prog_8_method_3_code_10 : decode prog_8_method_3_code 10 = .ok (.getfield 23, 3) := by decide +kernel
theorem d_prog_8_method_3_code_13 : decode prog_8_method_3_code 13 = .ok (.lmul, 1) := by decide +kernel
theorem d_prog_8_method_3_code_14 : decode prog_8_method_3_code 14 = .ok (.aload_n 0, 1) := by decide +kernel
theorem d_prog_8_method_3_code_15 : decode prog_8_method_3_code 15 = .ok (.getfield 20, 3) := by decide +kernel
theorem d_prog_8_method_3_code_18 : decode prog_8_method_3_code 18 = .ok (.invokestatic 28, 3) := by decide +kernel
theorem pd_0 : parseMethodDescriptor "(JJ)J" = some ⟨[.long, .long], some .long⟩ := by decide +kernel
theorem d_prog_8_method_3_code_21 : decode prog_8_method_3_code 21 = .ok (.putfield 23, 3) := by decide +kernel
theorem d_prog_8_method_3_code_24 : decode prog_8_method_3_code 24 = .ok (.lload_n 1, 1) := by decide +kernel
theorem d_prog_8_method_3_code_25 : decode prog_8_method_3_code 25 = .ok (.lreturn, 1) := by decide +kernel
def Q_rmN (Z : State) (a1 : Addr) (q2 : Int64) (q3 : Int64) (q4 : Int64) (h0 : Heap) (n0 : Nat) (v : Option Value) (h : Heap) (L : List Loc) : Prop := v = some (.long q4) ∧ Fr n0 L ∧ Keep h0 h [a1] ∧ Fld Z h a1 "com/example/nabu/nabu/relay/Backoff" "firstWaitMillis" "J" (.long q2) ∧ Fld Z h a1 "com/example/nabu/nabu/relay/Backoff" "lastWaitMillis" "J" (.long q3) ∧ Fld Z h a1 "com/example/nabu/nabu/relay/Backoff" "nextWaitMillis" "J" (.long (own_minL ((2 : Int64) * q4) q3))
theorem ef_2 (m : MethodId) (x0 : Addr) : entryFrame m #[(.ref x0)] 3 = mkF m 0 #[.val (.ref x0), .unset, .unset] [] := by first | (simp [entryFrame, mkF, argsToLocals, Value.category]; done) | rfl
set_option maxRecDepth 65536 in
set_option maxHeartbeats 40000000 in
theorem rmN (l : Launch) (Z : State) (a0 : Array Value) (hw : ∀ d ∈ tables_1, d.before a0 Z = true) (ws : List Jvm.Cond) (a1 : Addr) (q2 : Int64) (q3 : Int64) (q4 : Int64) (h0 : Heap) (n0 : Nat) (Z0 : n0 ≤ h0.size) (F_firstWaitMillis_a1 : Fld Z h0 a1 "com/example/nabu/nabu/relay/Backoff" "firstWaitMillis" "J" (.long q2)) (F_lastWaitMillis_a1 : Fld Z h0 a1 "com/example/nabu/nabu/relay/Backoff" "lastWaitMillis" "J" (.long q3)) (F_nextWaitMillis_a1 : Fld Z h0 a1 "com/example/nabu/nabu/relay/Backoff" "nextWaitMillis" "J" (.long q4)) (E_a1 : Exa Z h0 a1 "com/example/nabu/nabu/relay/Backoff") (g_a1 : n0 ≤ a1) :
    MetFree l (⟨"com/example/nabu/nabu/relay/Backoff", "next", "()J"⟩ : MethodName) (head1 (Jvm.Cond.code (⟨"com/example/nabu/nabu/relay/Backoff", "next", "()J"⟩ : MethodName) prog_8_method_3_code 3 (some .long) :: ws) ({ frames := 1, cells := 0, slots := 0, locals := 16 } : Room)) (fun a U => a = #[(.ref a1)] ∧ Z.Warmed39 U.vm ∧ U.heap = h0) (fun _ _ _ _ _ => True) (fun _ U o U' => ∃ v L, o = .returned v ∧ Q_rmN Z a1 q2 q3 q4 h0 n0 v U'.heap L ∧ FrameEnd U o U' L ({ frames := 1, cells := 0, slots := 0, locals := 16 } : Room).cells ({ frames := 1, cells := 0, slots := 0, locals := 16 } : Room).slots) := by
  refine MetFree.of_bodySF (plainFor_of_name pn_0) hisR ?_
  intro p e s m args below meth c s₁ Bd hml0 hP hK
  obtain ⟨rfl, hZ, hh⟩ := hP
  have hx := Bd.exec
  have hby := Bd.bytes
  have hml : c.maxLocals = 3 := hml0
  have hown : s.vm.findClass "com/example/nabu/nabu/relay/Backoff" = some m.cls := findClass_of_methodNamed Bd.named
  have hnm := (name_of_methodNamed Bd.named Bd.method).1
  have X0 : Stand p l e ({ frames := 1, cells := 0, slots := 0, locals := 16 } : Room) s m #[(.ref a1)] below meth c s₁ [] 0 0 := Stand.of_body Bd
  have e0 : s₁.heap = h0 := by rw [← hh, Bd.state]; rfl
  have N0 := Fr.nil n0
  have pre0 : ∀ t, Steps p.tables e below (s₁.setTop (mkF m 0 #[.val (.ref a1), .unset, .unset] [])) t → Steps p.tables e below (s₁.setTop (entryFrame m #[(.ref a1)] 3)) t := fun t k => castTop (ef_2 m a1) k
  obtain ⟨T1, X1, e1, st1⟩ := getF X0 hx hZ hown (host := "") (Or.inl (hw _ (List.mem_of_getElem? (i := 14) rfl))) Via.refl e0 F_nextWaitMillis_a1 (g := (mkF m 1 #[.val (.ref a1), .unset, .unset] [(.ref a1)])) rfl rfl (hb hby d_prog_8_method_3_code_1)
  obtain ⟨T2, X2, e2, st2⟩ := getF X1 hx hZ hown (host := "") (Or.inl (hw _ (List.mem_of_getElem? (i := 14) rfl))) Via.refl e1 F_nextWaitMillis_a1 (g := (mkF m 10 #[.val (.ref a1), .val (.long q4), .second] [(.ref a1), (.long (2 : Int64)), (.ref a1)])) rfl rfl (hb hby d_prog_8_method_3_code_10)
  obtain ⟨T3, X3, e3, st3⟩ := getF X2 hx hZ hown (host := "") (Or.inl (hw _ (List.mem_of_getElem? (i := 12) rfl))) Via.refl e2 F_lastWaitMillis_a1 (g := (mkF m 15 #[.val (.ref a1), .val (.long q4), .second] [(.ref a1), (.long ((2 : Int64) * q4)), (.ref a1)])) rfl rfl (hb hby d_prog_8_method_3_code_15)
  obtain ⟨_, _, ⟨T4, L4, k4, n4⟩, -, X4, ⟨Lc4, hQ4, l4, y4, z4⟩, st4⟩ := Jvm.LawKit.callS X3 hx (y := (⟨"java/lang/Math", "min", "(JJ)J"⟩ : MethodName)) hown (mvT hZ (hw _ (List.mem_of_getElem? (i := 22) rfl))) (mvT hZ (hw _ (List.mem_of_getElem? (i := 23) rfl))) (mvT hZ (hw _ (List.mem_of_getElem? (i := 24) rfl))) (mvT hZ (hw _ (List.mem_of_getElem? (i := 25) rfl))) (by decide) (backOf (W := 1) (rmM l Z a0 hw [] ((2 : Int64) * q4) q3 h0 n0 Z0 ) hZ (hw _ (List.mem_of_getElem? (i := 25) rfl)) (hw _ (List.mem_of_getElem? (i := 24) rfl)) (by decide) (by decide)) (g := (mkF m 18 #[.val (.ref a1), .val (.long q4), .second] [(.long q3), (.long ((2 : Int64) * q4)), (.ref a1)])) rfl (by rw [hml]; rfl) (argsL := [(.long ((2 : Int64) * q4)), (.long q3)]) (rest := [(.ref a1)]) (lenOf pd_0 rfl) rfl (by show 2 * 0 + _ ≤ _; exact Nat.le_of_eq rfl) (hb hby d_prog_8_method_3_code_18) (fun _ _ => ⟨rfl, e3, (by decide : 0 + 0 ≤ _), (by decide : 0 + 0 ≤ _)⟩)
  dsimp only [Pt.U, Pt.locs, Pt.cells, Pt.slots] at X4 l4 y4 z4 st4 hQ4
  subst l4 y4 z4
  obtain ⟨rfl, N4q, e4⟩ := hQ4
  have N4 := Fr.app N0 N4q
  obtain ⟨T5, h5, X5, e5, W5, st5⟩ := putF X4 hx hZ hown (host := "") (Or.inl (hw _ (List.mem_of_getElem? (i := 14) rfl))) Via.refl e4 F_nextWaitMillis_a1 E_a1 (Or.inl (hw _ (List.mem_of_getElem? (i := 15) rfl))) (hw _ (List.mem_of_getElem? (i := 2) rfl)) (ty := .long) (by decide) rfl rfl (g := (mkF m 21 #[.val (.ref a1), .val (.long q4), .second] [(.long (own_minL ((2 : Int64) * q4) q3)), (.ref a1)])) rfl rfl (hb hby d_prog_8_method_3_code_21)
  have Fw5 := F_nextWaitMillis_a1.same W5
  have Q5 : Keep h0 h5 [a1] := (Keep.refl h0 [a1]).wr W5 (Or.inl (List.mem_of_getElem? (i := 0) rfl))
  have N5 := Fr.snoc X5 N4 g_a1
  obtain ⟨fs, hr, hrun, hended, hW, hsame⟩ := X5.leave (v := some (.long q4)) (fun h => by rw [Bd.returns] at h; cases h)
  refine ⟨_, _, pre0 _ ?_, hrun, hended, _, _, rfl, ?_, ⟨_, rfl⟩, hW, hsame.mono (by decide) (by decide)⟩
  · show Steps p.tables e below (s₁.setTop (mkF m 0 #[.val (.ref a1), .unset, .unset] [])) _
    refine XS.aloadN X0.here hx rfl (hb hby d_prog_8_method_3_code_0) rfl rfl ?_
    show Steps p.tables e below (s₁.setTop (mkF m 1 #[.val (.ref a1), .unset, .unset] [(.ref a1)])) _
    refine st1 _ ?_
    show Steps p.tables e below (T1.setTop (mkF m 4 #[.val (.ref a1), .unset, .unset] [(.long q4)])) _
    refine XS.lstoreN X1.here hx rfl (hb hby d_prog_8_method_3_code_4) rfl (l' := #[.val (.ref a1), .val (.long q4), .second]) rfl ?_
    show Steps p.tables e below (T1.setTop (mkF m 5 #[.val (.ref a1), .val (.long q4), .second] [])) _
    refine XS.aloadN X1.here hx rfl (hb hby d_prog_8_method_3_code_5) rfl rfl ?_
    show Steps p.tables e below (T1.setTop (mkF m 6 #[.val (.ref a1), .val (.long q4), .second] [(.ref a1)])) _
    refine X1.ldc2J hx hown (mvT hZ (hw _ (List.mem_of_getElem? (i := 21) rfl))) (g := (mkF m 6 #[.val (.ref a1), .val (.long q4), .second] [(.ref a1)])) rfl (hb hby d_prog_8_method_3_code_6) ?_
    show Steps p.tables e below (T1.setTop (mkF m 9 #[.val (.ref a1), .val (.long q4), .second] [(.long (2 : Int64)), (.ref a1)])) _
    refine XS.aloadN X1.here hx rfl (hb hby d_prog_8_method_3_code_9) rfl rfl ?_
    show Steps p.tables e below (T1.setTop (mkF m 10 #[.val (.ref a1), .val (.long q4), .second] [(.ref a1), (.long (2 : Int64)), (.ref a1)])) _
    refine st2 _ ?_
    show Steps p.tables e below (T2.setTop (mkF m 13 #[.val (.ref a1), .val (.long q4), .second] [(.long q4), (.long (2 : Int64)), (.ref a1)])) _
    refine XS.lmul X2.here hx rfl (hb hby d_prog_8_method_3_code_13) rfl ?_
    show Steps p.tables e below (T2.setTop (mkF m 14 #[.val (.ref a1), .val (.long q4), .second] [(.long ((2 : Int64) * q4)), (.ref a1)])) _
    refine XS.aloadN X2.here hx rfl (hb hby d_prog_8_method_3_code_14) rfl rfl ?_
    show Steps p.tables e below (T2.setTop (mkF m 15 #[.val (.ref a1), .val (.long q4), .second] [(.ref a1), (.long ((2 : Int64) * q4)), (.ref a1)])) _
    refine st3 _ ?_
    show Steps p.tables e below (T3.setTop (mkF m 18 #[.val (.ref a1), .val (.long q4), .second] [(.long q3), (.long ((2 : Int64) * q4)), (.ref a1)])) _
    refine st4 _ ?_
    show Steps p.tables e below (T4.setTop (mkF m 21 #[.val (.ref a1), .val (.long q4), .second] [(.long (own_minL ((2 : Int64) * q4) q3)), (.ref a1)])) _
    refine st5 _ ?_
    show Steps p.tables e below (T5.setTop (mkF m 24 #[.val (.ref a1), .val (.long q4), .second] [])) _
    refine XS.lloadN X5.here hx rfl (hb hby d_prog_8_method_3_code_24) rfl ?_
    show Steps p.tables e below (T5.setTop (mkF m 25 #[.val (.ref a1), .val (.long q4), .second] [(.long q4)])) _
    exact X5.lreturnOut hx Bd.returns (hb hby d_prog_8_method_3_code_25) hr
  · show Q_rmN Z a1 q2 q3 q4 h0 n0 _ T5.heap _
    rw [e5]
    exact ⟨rfl, N5, Q5, (F_firstWaitMillis_a1.other W5 (Or.inr (slot_ne (Or.inr (hw _ (List.mem_of_getElem? (i := 11) rfl))) (Or.inl (hw _ (List.mem_of_getElem? (i := 15) rfl))) (by decide) (t := .long) (t' := .long) (by decide) (by decide)))), (F_lastWaitMillis_a1.other W5 (Or.inr (slot_ne (Or.inr (hw _ (List.mem_of_getElem? (i := 13) rfl))) (Or.inl (hw _ (List.mem_of_getElem? (i := 15) rfl))) (by decide) (t := .long) (t' := .long) (by decide) (by decide)))), Fw5⟩
theorem d_prog_8_method_4_code_0 : decode prog_8_method_4_code 0 = .ok (.aload_n 0, 1) := by decide +kernel
theorem d_prog_8_method_4_code_1 : decode prog_8_method_4_code 1 = .ok (.aload_n 0, 1) := by decide +kernel
theorem d_prog_8_method_4_code_2 : decode prog_8_method_4_code 2 = .ok (.getfield 16, 3) := by decide +kernel
theorem d_prog_8_method_4_code_5 : decode prog_8_method_4_code 5 = .ok (.putfield 23, 3) := by decide +kernel
theorem d_prog_8_method_4_code_8 : decode prog_8_method_4_code 8 = .ok (.return_, 1) := by decide +kernel
def Q_rmR (Z : State) (a1 : Addr) (q2 : Int64) (q3 : Int64) (q4 : Int64) (h0 : Heap) (n0 : Nat) (v : Option Value) (h : Heap) (L : List Loc) : Prop := v = none ∧ Fr n0 L ∧ Keep h0 h [a1] ∧ Fld Z h a1 "com/example/nabu/nabu/relay/Backoff" "firstWaitMillis" "J" (.long q2) ∧ Fld Z h a1 "com/example/nabu/nabu/relay/Backoff" "lastWaitMillis" "J" (.long q3) ∧ Fld Z h a1 "com/example/nabu/nabu/relay/Backoff" "nextWaitMillis" "J" (.long q2)
theorem ef_3 (m : MethodId) (x0 : Addr) : entryFrame m #[(.ref x0)] 1 = mkF m 0 #[.val (.ref x0)] [] := by first | (simp [entryFrame, mkF, argsToLocals, Value.category]; done) | rfl
set_option maxRecDepth 65536 in
set_option maxHeartbeats 40000000 in
theorem rmR (l : Launch) (Z : State) (a0 : Array Value) (hw : ∀ d ∈ tables_1, d.before a0 Z = true) (ws : List Jvm.Cond) (a1 : Addr) (q2 : Int64) (q3 : Int64) (q4 : Int64) (h0 : Heap) (n0 : Nat) (Z0 : n0 ≤ h0.size) (F_firstWaitMillis_a1 : Fld Z h0 a1 "com/example/nabu/nabu/relay/Backoff" "firstWaitMillis" "J" (.long q2)) (F_lastWaitMillis_a1 : Fld Z h0 a1 "com/example/nabu/nabu/relay/Backoff" "lastWaitMillis" "J" (.long q3)) (F_nextWaitMillis_a1 : Fld Z h0 a1 "com/example/nabu/nabu/relay/Backoff" "nextWaitMillis" "J" (.long q4)) (E_a1 : Exa Z h0 a1 "com/example/nabu/nabu/relay/Backoff") (g_a1 : n0 ≤ a1) :
    MetFree l (⟨"com/example/nabu/nabu/relay/Backoff", "reset", "()V"⟩ : MethodName) (head1 (Jvm.Cond.code (⟨"com/example/nabu/nabu/relay/Backoff", "reset", "()V"⟩ : MethodName) prog_8_method_4_code 1 none :: ws) ({ frames := 0, cells := 0, slots := 0, locals := 0 } : Room)) (fun a U => a = #[(.ref a1)] ∧ Z.Warmed39 U.vm ∧ U.heap = h0) (fun _ _ _ _ _ => True) (fun _ U o U' => ∃ v L, o = .returned v ∧ Q_rmR Z a1 q2 q3 q4 h0 n0 v U'.heap L ∧ FrameEnd U o U' L ({ frames := 0, cells := 0, slots := 0, locals := 0 } : Room).cells ({ frames := 0, cells := 0, slots := 0, locals := 0 } : Room).slots) := by
  refine MetFree.of_bodySF (plainFor_of_name pn_0) hisR ?_
  intro p e s m args below meth c s₁ Bd hml0 hP hK
  obtain ⟨rfl, hZ, hh⟩ := hP
  have hx := Bd.exec
  have hby := Bd.bytes
  have hml : c.maxLocals = 1 := hml0
  have hown : s.vm.findClass "com/example/nabu/nabu/relay/Backoff" = some m.cls := findClass_of_methodNamed Bd.named
  have hnm := (name_of_methodNamed Bd.named Bd.method).1
  have X0 : Stand p l e ({ frames := 0, cells := 0, slots := 0, locals := 0 } : Room) s m #[(.ref a1)] below meth c s₁ [] 0 0 := Stand.of_body Bd
  have e0 : s₁.heap = h0 := by rw [← hh, Bd.state]; rfl
  have N0 := Fr.nil n0
  have pre0 : ∀ t, Steps p.tables e below (s₁.setTop (mkF m 0 #[.val (.ref a1)] [])) t → Steps p.tables e below (s₁.setTop (entryFrame m #[(.ref a1)] 1)) t := fun t k => castTop (ef_3 m a1) k
  obtain ⟨T1, X1, e1, st1⟩ := getF X0 hx hZ hown (host := "") (Or.inl (hw _ (List.mem_of_getElem? (i := 10) rfl))) Via.refl e0 F_firstWaitMillis_a1 (g := (mkF m 2 #[.val (.ref a1)] [(.ref a1), (.ref a1)])) rfl rfl (hb hby d_prog_8_method_4_code_2)
  obtain ⟨T2, h2, X2, e2, W2, st2⟩ := putF X1 hx hZ hown (host := "") (Or.inl (hw _ (List.mem_of_getElem? (i := 14) rfl))) Via.refl e1 F_nextWaitMillis_a1 E_a1 (Or.inl (hw _ (List.mem_of_getElem? (i := 15) rfl))) (hw _ (List.mem_of_getElem? (i := 2) rfl)) (ty := .long) (by decide) rfl rfl (g := (mkF m 5 #[.val (.ref a1)] [(.long q2), (.ref a1)])) rfl rfl (hb hby d_prog_8_method_4_code_5)
  have Fw2 := F_nextWaitMillis_a1.same W2
  have Q2 : Keep h0 h2 [a1] := (Keep.refl h0 [a1]).wr W2 (Or.inl (List.mem_of_getElem? (i := 0) rfl))
  have N2 := Fr.snoc X2 N0 g_a1
  obtain ⟨fs, hr, hrun, hended, hW, hsame⟩ := X2.leave (v := none) (fun _ => rfl)
  refine ⟨_, _, pre0 _ ?_, hrun, hended, _, _, rfl, ?_, ⟨_, rfl⟩, hW, hsame.mono (by decide) (by decide)⟩
  · show Steps p.tables e below (s₁.setTop (mkF m 0 #[.val (.ref a1)] [])) _
    refine XS.aloadN X0.here hx rfl (hb hby d_prog_8_method_4_code_0) rfl rfl ?_
    show Steps p.tables e below (s₁.setTop (mkF m 1 #[.val (.ref a1)] [(.ref a1)])) _
    refine XS.aloadN X0.here hx rfl (hb hby d_prog_8_method_4_code_1) rfl rfl ?_
    show Steps p.tables e below (s₁.setTop (mkF m 2 #[.val (.ref a1)] [(.ref a1), (.ref a1)])) _
    refine st1 _ ?_
    show Steps p.tables e below (T1.setTop (mkF m 5 #[.val (.ref a1)] [(.long q2), (.ref a1)])) _
    refine st2 _ ?_
    show Steps p.tables e below (T2.setTop (mkF m 8 #[.val (.ref a1)] [])) _
    exact X2.returnOut hx Bd.returns (hb hby d_prog_8_method_4_code_8) hr
  · show Q_rmR Z a1 q2 q3 q4 h0 n0 _ T2.heap _
    rw [e2]
    exact ⟨rfl, N2, Q2, (F_firstWaitMillis_a1.other W2 (Or.inr (slot_ne (Or.inr (hw _ (List.mem_of_getElem? (i := 11) rfl))) (Or.inl (hw _ (List.mem_of_getElem? (i := 15) rfl))) (by decide) (t := .long) (t' := .long) (by decide) (by decide)))), (F_lastWaitMillis_a1.other W2 (Or.inr (slot_ne (Or.inr (hw _ (List.mem_of_getElem? (i := 13) rfl))) (Or.inl (hw _ (List.mem_of_getElem? (i := 15) rfl))) (by decide) (t := .long) (t' := .long) (by decide) (by decide)))), Fw2⟩
theorem d_method_2_code_0 : decode method_2_code 0 = .ok (.iload 4, 2) := by decide +kernel
theorem d_method_2_code_2 : decode method_2_code 2 = .ok (.ifCond .ne 5, 3) := by decide +kernel
theorem d_method_2_code_5 : decode method_2_code 5 = .ok (.lload_n 0, 1) := by decide +kernel
theorem d_method_2_code_6 : decode method_2_code 6 = .ok (.lreturn, 1) := by decide +kernel
theorem d_method_2_code_7 : decode method_2_code 7 = .ok (.lload_n 0, 1) := by decide +kernel
theorem d_method_2_code_8 : decode method_2_code 8 = .ok (.lload_n 2, 1) := by decide +kernel
theorem d_method_2_code_9 : decode method_2_code 9 = .ok (.iload 4, 2) := by decide +kernel
theorem d_method_2_code_11 : decode method_2_code 11 = .ok (.lshr, 1) := by decide +kernel
theorem d_method_2_code_12 : decode method_2_code 12 = .ok (.lcmp, 1) := by decide +kernel
theorem d_method_2_code_13 : decode method_2_code 13 = .ok (.ifCond .le 5, 3) := by decide +kernel
theorem d_method_2_code_16 : decode method_2_code 16 = .ok (.lload_n 2, 1) := by decide +kernel
theorem d_method_2_code_17 : decode method_2_code 17 = .ok (.lreturn, 1) := by decide +kernel
theorem d_method_2_code_18 : decode method_2_code 18 = .ok (.lload_n 0, 1) := by decide +kernel
theorem d_method_2_code_19 : decode method_2_code 19 = .ok (.iload 4, 2) := by decide +kernel
theorem d_method_2_code_21 : decode method_2_code 21 = .ok (.lshl, 1) := by decide +kernel
theorem d_method_2_code_22 : decode method_2_code 22 = .ok (.lreturn, 1) := by decide +kernel
def Q_rmE (Z : State) (q1 : Int64) (q2 : Int64) (p3 : Int32) (h0 : Heap) (n0 : Nat) (v : Option Value) (h : Heap) (L : List Loc) : Prop := v = some (.long (own_exp q1 q2 p3)) ∧ Fr n0 L ∧ h = h0
theorem pn_1 : plainName "com/example/nabu/nabu/relay/BackoffNextPinLaw" = true := by first | (simp [plainName, overriddenIn]; done) | decide +kernel
theorem ef_4 (m : MethodId) (x0 : Int64) (x1 : Int64) (x2 : Int32) : entryFrame m #[(.long x0), (.long x1), (.int x2)] 5 = mkF m 0 #[.val (.long x0), .second, .val (.long x1), .second, .val (.int x2)] [] := by first | (simp [entryFrame, mkF, argsToLocals, Value.category]; done) | rfl
set_option maxRecDepth 65536 in
set_option maxHeartbeats 40000000 in
theorem rmE_t (l : Launch) (Z : State) (a0 : Array Value) (hw : ∀ d ∈ tables_1, d.before a0 Z = true) (ws : List Jvm.Cond) (q1 : Int64) (q2 : Int64) (p3 : Int32) (h0 : Heap) (n0 : Nat) (Z0 : n0 ≤ h0.size) (hc2 : p3 = (0 : Int32)) (hres : (own_exp q1 q2 p3) = q1) :
    MetFree l (⟨"com/example/nabu/nabu/relay/BackoffNextPinLaw", "expected", "(JJI)J"⟩ : MethodName) (head1 (Jvm.Cond.code (⟨"com/example/nabu/nabu/relay/BackoffNextPinLaw", "expected", "(JJI)J"⟩ : MethodName) method_2_code 5 (some .long) :: ws) ({ frames := 0, cells := 0, slots := 0, locals := 0 } : Room)) (fun a U => a = #[(.long q1), (.long q2), (.int p3)] ∧ Z.Warmed39 U.vm ∧ U.heap = h0) (fun _ _ _ _ _ => True) (fun _ U o U' => ∃ v L, o = .returned v ∧ Q_rmE Z q1 q2 p3 h0 n0 v U'.heap L ∧ FrameEnd U o U' L ({ frames := 0, cells := 0, slots := 0, locals := 0 } : Room).cells ({ frames := 0, cells := 0, slots := 0, locals := 0 } : Room).slots) := by
  refine MetFree.of_bodySF (plainFor_of_name pn_1) hisR ?_
  intro p e s m args below meth c s₁ Bd hml0 hP hK
  obtain ⟨rfl, hZ, hh⟩ := hP
  have hx := Bd.exec
  have hby := Bd.bytes
  have hml : c.maxLocals = 5 := hml0
  have hown : s.vm.findClass "com/example/nabu/nabu/relay/BackoffNextPinLaw" = some m.cls := findClass_of_methodNamed Bd.named
  have hnm := (name_of_methodNamed Bd.named Bd.method).1
  have X0 : Stand p l e ({ frames := 0, cells := 0, slots := 0, locals := 0 } : Room) s m #[(.long q1), (.long q2), (.int p3)] below meth c s₁ [] 0 0 := Stand.of_body Bd
  have e0 : s₁.heap = h0 := by rw [← hh, Bd.state]; rfl
  have N0 := Fr.nil n0
  have pre0 : ∀ t, Steps p.tables e below (s₁.setTop (mkF m 0 #[.val (.long q1), .second, .val (.long q2), .second, .val (.int p3)] [])) t → Steps p.tables e below (s₁.setTop (entryFrame m #[(.long q1), (.long q2), (.int p3)] 5)) t := fun t k => castTop (ef_4 m q1 q2 p3) k
  obtain ⟨fs, hr, hrun, hended, hW, hsame⟩ := X0.leave (v := some (.long q1)) (fun h => by rw [Bd.returns] at h; cases h)
  refine ⟨_, _, pre0 _ ?_, hrun, hended, _, _, rfl, ?_, ⟨_, rfl⟩, hW, hsame.mono (by decide) (by decide)⟩
  · show Steps p.tables e below (s₁.setTop (mkF m 0 #[.val (.long q1), .second, .val (.long q2), .second, .val (.int p3)] [])) _
    refine XS.iload X0.here hx rfl (hb hby d_method_2_code_0) rfl ?_
    show Steps p.tables e below (s₁.setTop (mkF m 2 #[.val (.long q1), .second, .val (.long q2), .second, .val (.int p3)] [(.int p3)])) _
    refine XS.ifNo X0.here hx rfl (hb hby d_method_2_code_2) rfl ((if0 _ _).trans (teq hc2).2) ?_
    show Steps p.tables e below (s₁.setTop (mkF m 5 #[.val (.long q1), .second, .val (.long q2), .second, .val (.int p3)] [])) _
    refine XS.lloadN X0.here hx rfl (hb hby d_method_2_code_5) rfl ?_
    show Steps p.tables e below (s₁.setTop (mkF m 6 #[.val (.long q1), .second, .val (.long q2), .second, .val (.int p3)] [(.long q1)])) _
    exact X0.lreturnOut hx Bd.returns (hb hby d_method_2_code_6) hr
  · show Q_rmE Z q1 q2 p3 h0 n0 _ s₁.heap _
    rw [e0]
    exact ⟨by rw [hres], N0, rfl⟩
set_option maxRecDepth 65536 in
set_option maxHeartbeats 40000000 in
theorem rmE_ft (l : Launch) (Z : State) (a0 : Array Value) (hw : ∀ d ∈ tables_1, d.before a0 Z = true) (ws : List Jvm.Cond) (q1 : Int64) (q2 : Int64) (p3 : Int32) (h0 : Heap) (n0 : Nat) (Z0 : n0 ≤ h0.size) (hc2 : ¬ (p3 = (0 : Int32))) (hc13 : (q2 >>> (p3 &&& 0x3f).toInt64) < q1) (hres : (own_exp q1 q2 p3) = q2) :
    MetFree l (⟨"com/example/nabu/nabu/relay/BackoffNextPinLaw", "expected", "(JJI)J"⟩ : MethodName) (head1 (Jvm.Cond.code (⟨"com/example/nabu/nabu/relay/BackoffNextPinLaw", "expected", "(JJI)J"⟩ : MethodName) method_2_code 5 (some .long) :: ws) ({ frames := 0, cells := 0, slots := 0, locals := 0 } : Room)) (fun a U => a = #[(.long q1), (.long q2), (.int p3)] ∧ Z.Warmed39 U.vm ∧ U.heap = h0) (fun _ _ _ _ _ => True) (fun _ U o U' => ∃ v L, o = .returned v ∧ Q_rmE Z q1 q2 p3 h0 n0 v U'.heap L ∧ FrameEnd U o U' L ({ frames := 0, cells := 0, slots := 0, locals := 0 } : Room).cells ({ frames := 0, cells := 0, slots := 0, locals := 0 } : Room).slots) := by
  refine MetFree.of_bodySF (plainFor_of_name pn_1) hisR ?_
  intro p e s m args below meth c s₁ Bd hml0 hP hK
  obtain ⟨rfl, hZ, hh⟩ := hP
  have hx := Bd.exec
  have hby := Bd.bytes
  have hml : c.maxLocals = 5 := hml0
  have hown : s.vm.findClass "com/example/nabu/nabu/relay/BackoffNextPinLaw" = some m.cls := findClass_of_methodNamed Bd.named
  have hnm := (name_of_methodNamed Bd.named Bd.method).1
  have X0 : Stand p l e ({ frames := 0, cells := 0, slots := 0, locals := 0 } : Room) s m #[(.long q1), (.long q2), (.int p3)] below meth c s₁ [] 0 0 := Stand.of_body Bd
  have e0 : s₁.heap = h0 := by rw [← hh, Bd.state]; rfl
  have N0 := Fr.nil n0
  have pre0 : ∀ t, Steps p.tables e below (s₁.setTop (mkF m 0 #[.val (.long q1), .second, .val (.long q2), .second, .val (.int p3)] [])) t → Steps p.tables e below (s₁.setTop (entryFrame m #[(.long q1), (.long q2), (.int p3)] 5)) t := fun t k => castTop (ef_4 m q1 q2 p3) k
  obtain ⟨fs, hr, hrun, hended, hW, hsame⟩ := X0.leave (v := some (.long q2)) (fun h => by rw [Bd.returns] at h; cases h)
  refine ⟨_, _, pre0 _ ?_, hrun, hended, _, _, rfl, ?_, ⟨_, rfl⟩, hW, hsame.mono (by decide) (by decide)⟩
  · show Steps p.tables e below (s₁.setTop (mkF m 0 #[.val (.long q1), .second, .val (.long q2), .second, .val (.int p3)] [])) _
    refine XS.iload X0.here hx rfl (hb hby d_method_2_code_0) rfl ?_
    show Steps p.tables e below (s₁.setTop (mkF m 2 #[.val (.long q1), .second, .val (.long q2), .second, .val (.int p3)] [(.int p3)])) _
    refine XS.ifYes X0.here hx rfl (pc0 := 2) (pc' := 7) rfl (hb hby d_method_2_code_2) rfl ((if0 _ _).trans (feq hc2).2) (by decide) (by decide) ?_
    show Steps p.tables e below (s₁.setTop (mkF m 7 #[.val (.long q1), .second, .val (.long q2), .second, .val (.int p3)] [])) _
    refine XS.lloadN X0.here hx rfl (hb hby d_method_2_code_7) rfl ?_
    show Steps p.tables e below (s₁.setTop (mkF m 8 #[.val (.long q1), .second, .val (.long q2), .second, .val (.int p3)] [(.long q1)])) _
    refine XS.lloadN X0.here hx rfl (hb hby d_method_2_code_8) rfl ?_
    show Steps p.tables e below (s₁.setTop (mkF m 9 #[.val (.long q1), .second, .val (.long q2), .second, .val (.int p3)] [(.long q2), (.long q1)])) _
    refine XS.iload X0.here hx rfl (hb hby d_method_2_code_9) rfl ?_
    show Steps p.tables e below (s₁.setTop (mkF m 11 #[.val (.long q1), .second, .val (.long q2), .second, .val (.int p3)] [(.int p3), (.long q2), (.long q1)])) _
    refine XS.lshr X0.here hx rfl (hb hby d_method_2_code_11) rfl ?_
    show Steps p.tables e below (s₁.setTop (mkF m 12 #[.val (.long q1), .second, .val (.long q2), .second, .val (.int p3)] [(.long (q2 >>> (p3 &&& 0x3f).toInt64)), (.long q1)])) _
    refine XS.lcmp X0.here hx rfl (hb hby d_method_2_code_12) rfl ?_
    show Steps p.tables e below (s₁.setTop (mkF m 13 #[.val (.long q1), .second, .val (.long q2), .second, .val (.int p3)] [(.int (lcmpW q1 (q2 >>> (p3 &&& 0x3f).toInt64)))])) _
    refine XS.ifNo X0.here hx rfl (hb hby d_method_2_code_13) rfl ((if0 _ _).trans (tlt ((lw_gt q1 (q2 >>> (p3 &&& 0x3f).toInt64)).mpr hc13)).2.2.2) ?_
    show Steps p.tables e below (s₁.setTop (mkF m 16 #[.val (.long q1), .second, .val (.long q2), .second, .val (.int p3)] [])) _
    refine XS.lloadN X0.here hx rfl (hb hby d_method_2_code_16) rfl ?_
    show Steps p.tables e below (s₁.setTop (mkF m 17 #[.val (.long q1), .second, .val (.long q2), .second, .val (.int p3)] [(.long q2)])) _
    exact X0.lreturnOut hx Bd.returns (hb hby d_method_2_code_17) hr
  · show Q_rmE Z q1 q2 p3 h0 n0 _ s₁.heap _
    rw [e0]
    exact ⟨by rw [hres], N0, rfl⟩
set_option maxRecDepth 65536 in
set_option maxHeartbeats 40000000 in
theorem rmE_ff (l : Launch) (Z : State) (a0 : Array Value) (hw : ∀ d ∈ tables_1, d.before a0 Z = true) (ws : List Jvm.Cond) (q1 : Int64) (q2 : Int64) (p3 : Int32) (h0 : Heap) (n0 : Nat) (Z0 : n0 ≤ h0.size) (hc2 : ¬ (p3 = (0 : Int32))) (hc13 : ¬ ((q2 >>> (p3 &&& 0x3f).toInt64) < q1)) (hres : (own_exp q1 q2 p3) = (q1 <<< (p3 &&& 0x3f).toInt64)) :
    MetFree l (⟨"com/example/nabu/nabu/relay/BackoffNextPinLaw", "expected", "(JJI)J"⟩ : MethodName) (head1 (Jvm.Cond.code (⟨"com/example/nabu/nabu/relay/BackoffNextPinLaw", "expected", "(JJI)J"⟩ : MethodName) method_2_code 5 (some .long) :: ws) ({ frames := 0, cells := 0, slots := 0, locals := 0 } : Room)) (fun a U => a = #[(.long q1), (.long q2), (.int p3)] ∧ Z.Warmed39 U.vm ∧ U.heap = h0) (fun _ _ _ _ _ => True) (fun _ U o U' => ∃ v L, o = .returned v ∧ Q_rmE Z q1 q2 p3 h0 n0 v U'.heap L ∧ FrameEnd U o U' L ({ frames := 0, cells := 0, slots := 0, locals := 0 } : Room).cells ({ frames := 0, cells := 0, slots := 0, locals := 0 } : Room).slots) := by
  refine MetFree.of_bodySF (plainFor_of_name pn_1) hisR ?_
  intro p e s m args below meth c s₁ Bd hml0 hP hK
  obtain ⟨rfl, hZ, hh⟩ := hP
  have hx := Bd.exec
  have hby := Bd.bytes
  have hml : c.maxLocals = 5 := hml0
  have hown : s.vm.findClass "com/example/nabu/nabu/relay/BackoffNextPinLaw" = some m.cls := findClass_of_methodNamed Bd.named
  have hnm := (name_of_methodNamed Bd.named Bd.method).1
  have X0 : Stand p l e ({ frames := 0, cells := 0, slots := 0, locals := 0 } : Room) s m #[(.long q1), (.long q2), (.int p3)] below meth c s₁ [] 0 0 := Stand.of_body Bd
  have e0 : s₁.heap = h0 := by rw [← hh, Bd.state]; rfl
  have N0 := Fr.nil n0
  have pre0 : ∀ t, Steps p.tables e below (s₁.setTop (mkF m 0 #[.val (.long q1), .second, .val (.long q2), .second, .val (.int p3)] [])) t → Steps p.tables e below (s₁.setTop (entryFrame m #[(.long q1), (.long q2), (.int p3)] 5)) t := fun t k => castTop (ef_4 m q1 q2 p3) k
  obtain ⟨fs, hr, hrun, hended, hW, hsame⟩ := X0.leave (v := some (.long (q1 <<< (p3 &&& 0x3f).toInt64))) (fun h => by rw [Bd.returns] at h; cases h)
  refine ⟨_, _, pre0 _ ?_, hrun, hended, _, _, rfl, ?_, ⟨_, rfl⟩, hW, hsame.mono (by decide) (by decide)⟩
  · show Steps p.tables e below (s₁.setTop (mkF m 0 #[.val (.long q1), .second, .val (.long q2), .second, .val (.int p3)] [])) _
    refine XS.iload X0.here hx rfl (hb hby d_method_2_code_0) rfl ?_
    show Steps p.tables e below (s₁.setTop (mkF m 2 #[.val (.long q1), .second, .val (.long q2), .second, .val (.int p3)] [(.int p3)])) _
    refine XS.ifYes X0.here hx rfl (pc0 := 2) (pc' := 7) rfl (hb hby d_method_2_code_2) rfl ((if0 _ _).trans (feq hc2).2) (by decide) (by decide) ?_
    show Steps p.tables e below (s₁.setTop (mkF m 7 #[.val (.long q1), .second, .val (.long q2), .second, .val (.int p3)] [])) _
    refine XS.lloadN X0.here hx rfl (hb hby d_method_2_code_7) rfl ?_
    show Steps p.tables e below (s₁.setTop (mkF m 8 #[.val (.long q1), .second, .val (.long q2), .second, .val (.int p3)] [(.long q1)])) _
    refine XS.lloadN X0.here hx rfl (hb hby d_method_2_code_8) rfl ?_
    show Steps p.tables e below (s₁.setTop (mkF m 9 #[.val (.long q1), .second, .val (.long q2), .second, .val (.int p3)] [(.long q2), (.long q1)])) _
    refine XS.iload X0.here hx rfl (hb hby d_method_2_code_9) rfl ?_
    show Steps p.tables e below (s₁.setTop (mkF m 11 #[.val (.long q1), .second, .val (.long q2), .second, .val (.int p3)] [(.int p3), (.long q2), (.long q1)])) _
    refine XS.lshr X0.here hx rfl (hb hby d_method_2_code_11) rfl ?_
    show Steps p.tables e below (s₁.setTop (mkF m 12 #[.val (.long q1), .second, .val (.long q2), .second, .val (.int p3)] [(.long (q2 >>> (p3 &&& 0x3f).toInt64)), (.long q1)])) _
    refine XS.lcmp X0.here hx rfl (hb hby d_method_2_code_12) rfl ?_
    show Steps p.tables e below (s₁.setTop (mkF m 13 #[.val (.long q1), .second, .val (.long q2), .second, .val (.int p3)] [(.int (lcmpW q1 (q2 >>> (p3 &&& 0x3f).toInt64)))])) _
    refine XS.ifYes X0.here hx rfl (pc0 := 13) (pc' := 18) rfl (hb hby d_method_2_code_13) rfl ((if0 _ _).trans (flt (mt (lw_gt q1 (q2 >>> (p3 &&& 0x3f).toInt64)).mp hc13)).2.2.2) (by decide) (by decide) ?_
    show Steps p.tables e below (s₁.setTop (mkF m 18 #[.val (.long q1), .second, .val (.long q2), .second, .val (.int p3)] [])) _
    refine XS.lloadN X0.here hx rfl (hb hby d_method_2_code_18) rfl ?_
    show Steps p.tables e below (s₁.setTop (mkF m 19 #[.val (.long q1), .second, .val (.long q2), .second, .val (.int p3)] [(.long q1)])) _
    refine XS.iload X0.here hx rfl (hb hby d_method_2_code_19) rfl ?_
    show Steps p.tables e below (s₁.setTop (mkF m 21 #[.val (.long q1), .second, .val (.long q2), .second, .val (.int p3)] [(.int p3), (.long q1)])) _
    refine XS.lshl X0.here hx rfl (hb hby d_method_2_code_21) rfl ?_
    show Steps p.tables e below (s₁.setTop (mkF m 22 #[.val (.long q1), .second, .val (.long q2), .second, .val (.int p3)] [(.long (q1 <<< (p3 &&& 0x3f).toInt64))])) _
    exact X0.lreturnOut hx Bd.returns (hb hby d_method_2_code_22) hr
  · show Q_rmE Z q1 q2 p3 h0 n0 _ s₁.heap _
    rw [e0]
    exact ⟨by rw [hres], N0, rfl⟩
theorem rmE (l : Launch) (Z : State) (a0 : Array Value) (hw : ∀ d ∈ tables_1, d.before a0 Z = true) (ws : List Jvm.Cond) (q1 : Int64) (q2 : Int64) (p3 : Int32) (h0 : Heap) (n0 : Nat) (Z0 : n0 ≤ h0.size) :
    MetFree l (⟨"com/example/nabu/nabu/relay/BackoffNextPinLaw", "expected", "(JJI)J"⟩ : MethodName) (head1 (Jvm.Cond.code (⟨"com/example/nabu/nabu/relay/BackoffNextPinLaw", "expected", "(JJI)J"⟩ : MethodName) method_2_code 5 (some .long) :: ws) ({ frames := 0, cells := 0, slots := 0, locals := 0 } : Room)) (fun a U => a = #[(.long q1), (.long q2), (.int p3)] ∧ Z.Warmed39 U.vm ∧ U.heap = h0) (fun _ _ _ _ _ => True) (fun _ U o U' => ∃ v L, o = .returned v ∧ Q_rmE Z q1 q2 p3 h0 n0 v U'.heap L ∧ FrameEnd U o U' L ({ frames := 0, cells := 0, slots := 0, locals := 0 } : Room).cells ({ frames := 0, cells := 0, slots := 0, locals := 0 } : Room).slots) := by
  by_cases hc2 : p3 = (0 : Int32)
  · skip
    exact rmE_t l Z a0 hw ws q1 q2 p3 h0 n0 Z0 hc2 (by simp only [own_exp, if_pos hc2])
  · skip
    by_cases hc13 : (q2 >>> (p3 &&& 0x3f).toInt64) < q1
    · skip
      exact rmE_ft l Z a0 hw ws q1 q2 p3 h0 n0 Z0 hc2 hc13 (by simp only [own_exp, if_neg hc2, if_pos hc13])
    · skip
      exact rmE_ff l Z a0 hw ws q1 q2 p3 h0 n0 Z0 hc2 hc13 (by simp only [own_exp, if_neg hc2, if_neg hc13])
theorem pd_1 : parseMethodDescriptor "(JJ)V" = some ⟨[.long, .long], none⟩ := by decide +kernel
theorem pd_2 : parseMethodDescriptor "()J" = some ⟨[], some .long⟩ := by decide +kernel
theorem pd_3 : parseMethodDescriptor "()V" = some ⟨[], none⟩ := by decide +kernel
theorem pd_4 : parseMethodDescriptor "(JJI)J" = some ⟨[.long, .long, .int], some .long⟩ := by decide +kernel
def Q_rm0 (Z : State) (q1 : Int64) (q2 : Int64) (h0 : Heap) (n0 : Nat) (v : Option Value) (h : Heap) (L : List Loc) : Prop := v = some (.int (1 : Int32)) ∧ Fr n0 L ∧ Keep h0 h []
theorem ef_5 (m : MethodId) (x0 : Int64) (x1 : Int64) : entryFrame m #[(.long x0), (.long x1)] maxLocals = mkF m 0 #[.val (.long x0), .second, .val (.long x1), .second, .unset, .unset, .unset, .unset, .unset, .unset, .unset, .unset, .unset, .unset, .unset, .unset, .unset, .unset, .unset, .unset, .unset, .unset, .unset] [] := by first | (simp [entryFrame, mkF, argsToLocals, Value.category, maxLocals]; done) | rfl
set_option maxRecDepth 65536 in
set_option maxHeartbeats 40000000 in
theorem rm0_ttttt (l : Launch) (Z : State) (a0 : Array Value) (hw : ∀ d ∈ tables_1, d.before a0 Z = true) (ws : List Jvm.Cond) (q1 : Int64) (q2 : Int64) (h0 : Heap) (n0 : Nat) (Z0 : n0 ≤ h0.size) (hc92 : (own_m q1) = (own_exp (own_m q1) (own_m q2) (0 : Int32))) (hc106 : (own_minL ((2 : Int64) * (own_m q1)) (own_m q2)) = (own_exp (own_m q1) (own_m q2) (1 : Int32))) (hc120 : (own_minL ((2 : Int64) * (own_minL ((2 : Int64) * (own_m q1)) (own_m q2))) (own_m q2)) = (own_exp (own_m q1) (own_m q2) (2 : Int32))) (hc134 : (own_minL ((2 : Int64) * (own_minL ((2 : Int64) * (own_minL ((2 : Int64) * (own_m q1)) (own_m q2))) (own_m q2))) (own_m q2)) = (own_exp (own_m q1) (own_m q2) (3 : Int32))) (hc148 : (own_minL ((2 : Int64) * (own_minL ((2 : Int64) * (own_minL ((2 : Int64) * (own_minL ((2 : Int64) * (own_m q1)) (own_m q2))) (own_m q2))) (own_m q2))) (own_m q2)) = (own_exp (own_m q1) (own_m q2) (4 : Int32))) :
    MetFree l x (head1 (Jvm.Cond.code x code maxLocals ret :: ws) room_1) (fun a U => a = #[(.long q1), (.long q2)] ∧ Z.Warmed39 U.vm ∧ U.heap = h0) (fun _ _ _ _ _ => True) (fun _ U o U' => ∃ v L, o = .returned v ∧ Q_rm0 Z q1 q2 h0 n0 v U'.heap L ∧ FrameEnd U o U' L room_1.cells room_1.slots) := by
  refine MetFree.of_bodySF (plainFor_of_name pn_1) hisR ?_
  intro p e s m args below meth c s₁ Bd hml0 hP hK
  obtain ⟨rfl, hZ, hh⟩ := hP
  have hx := Bd.exec
  have hby := Bd.bytes
  have hml : c.maxLocals = 23 := hml0
  have hown : s.vm.findClass "com/example/nabu/nabu/relay/BackoffNextPinLaw" = some m.cls := findClass_of_methodNamed Bd.named
  have hnm := (name_of_methodNamed Bd.named Bd.method).1
  have X0 : Stand p l e room_1 s m #[(.long q1), (.long q2)] below meth c s₁ [] 0 0 := Stand.of_body Bd
  have e0 : s₁.heap = h0 := by rw [← hh, Bd.state]; rfl
  have N0 := Fr.nil n0
  have pre0 : ∀ t, Steps p.tables e below (s₁.setTop (mkF m 0 #[.val (.long q1), .second, .val (.long q2), .second, .unset, .unset, .unset, .unset, .unset, .unset, .unset, .unset, .unset, .unset, .unset, .unset, .unset, .unset, .unset, .unset, .unset, .unset, .unset] [])) t → Steps p.tables e below (s₁.setTop (entryFrame m #[(.long q1), (.long q2)] maxLocals)) t := fun t k => castTop (ef_5 m q1 q2) k
  obtain ⟨T1, h1, X1, e1, E1, A1, D1, -, st1⟩ := newO X0 hx hZ hown (hw _ (List.mem_of_getElem? (i := 1) rfl)) (hw _ (List.mem_of_getElem? (i := 2) rfl)) (hw _ (List.mem_of_getElem? (i := 3) rfl)) e0 (g := (mkF m 14 #[.val (.long q1), .second, .val (.long q2), .second, .val (.long (own_m q1)), .second, .val (.long (own_m q2)), .second, .unset, .unset, .unset, .unset, .unset, .unset, .unset, .unset, .unset, .unset, .unset, .unset, .unset, .unset, .unset] [])) rfl (hb hby at_14) (by decide) (by decide)
  obtain ⟨b1, gg1⟩ : ∃ z, z = h0.size := ⟨_, rfl⟩
  rw [← gg1] at A1 D1 st1
  have g_b1 : n0 ≤ b1 := Nat.le_trans Z0 (Nat.le_of_eq gg1.symm)
  have sz_b1 : h0.size ≤ b1 := Nat.le_trans (Keep.refl h0 []).1 (Nat.le_of_eq gg1.symm)
  have Q1 : Keep h0 h1 [] := (Keep.refl h0 []).ext E1
  have F_firstWaitMillis_b1 : Fld Z h1 b1 "com/example/nabu/nabu/relay/Backoff" "firstWaitMillis" "J" (.long (0 : Int64)) := D1 (Or.inr (hw _ (List.mem_of_getElem? (i := 11) rfl))) (ty := .long) (by decide)
  have F_lastWaitMillis_b1 : Fld Z h1 b1 "com/example/nabu/nabu/relay/Backoff" "lastWaitMillis" "J" (.long (0 : Int64)) := D1 (Or.inr (hw _ (List.mem_of_getElem? (i := 13) rfl))) (ty := .long) (by decide)
  have F_nextWaitMillis_b1 : Fld Z h1 b1 "com/example/nabu/nabu/relay/Backoff" "nextWaitMillis" "J" (.long (0 : Int64)) := D1 (Or.inl (hw _ (List.mem_of_getElem? (i := 15) rfl))) (ty := .long) (by decide)
  obtain ⟨_, _, ⟨T2, L2, k2, n2⟩, -, X2, ⟨Lc2, hQ2, l2, y2, z2⟩, st2⟩ := X1.specialBack hx (y := (⟨"com/example/nabu/nabu/relay/Backoff", "<init>", "(JJ)V"⟩ : MethodName)) rfl hown (mvT hZ (hw _ (List.mem_of_getElem? (i := 4) rfl))) (mvT hZ (hw _ (List.mem_of_getElem? (i := 5) rfl))) (mvT hZ (hw _ (List.mem_of_getElem? (i := 6) rfl))) (by decide) (backOf (W := 1) (rmI l Z a0 hw [] b1 (own_m q1) (own_m q2) h1 n0 (Nat.le_trans Z0 E1.1) F_firstWaitMillis_b1 F_lastWaitMillis_b1 F_nextWaitMillis_b1 A1 g_b1) hZ (hw _ (List.mem_of_getElem? (i := 6) rfl)) (hw _ (List.mem_of_getElem? (i := 3) rfl)) (by decide) (by decide)) (g := (mkF m 22 #[.val (.long q1), .second, .val (.long q2), .second, .val (.long (own_m q1)), .second, .val (.long (own_m q2)), .second, .unset, .unset, .unset, .unset, .unset, .unset, .unset, .unset, .unset, .unset, .unset, .unset, .unset, .unset, .unset] [(.long (own_m q2)), (.long (own_m q1)), (.ref b1), (.ref b1)])) rfl (by rw [hml]; rfl) (Steps.refl _) (a := b1) (argsL := [(.long (own_m q1)), (.long (own_m q2))]) (rest := [(.ref b1)]) (lenOf pd_1 rfl) rfl (by show 2 * 0 + _ ≤ _; exact Nat.le_of_eq rfl) (hb hby at_22) (fun _ _ => ⟨rfl, e1, (by decide : 1 + 0 ≤ _), (by decide : 3 + 0 ≤ _)⟩)
  dsimp only [Pt.U, Pt.locs, Pt.cells, Pt.slots] at X2 l2 y2 z2 st2 hQ2
  subst l2 y2 z2
  obtain ⟨rfl, N2q, K2, p2_0, p2_1, p2_2⟩ := hQ2
  have N2 := Fr.app N0 N2q
  have Q2 : Keep h0 T2.heap [] := Q1.trans K2 (allS (Or.inr sz_b1) all0)
  obtain ⟨cq3, kq3, q3a, q3b, q3c⟩ := isOf hZ rfl (A1.keep K2)
  obtain ⟨_, _, ⟨T3, L3, k3, n3⟩, -, X3, ⟨Lc3, hQ3, l3, y3, z3⟩, st3⟩ := X2.virtualBack hx (y := (⟨"com/example/nabu/nabu/relay/Backoff", "next", "()J"⟩ : MethodName)) (z := (⟨"com/example/nabu/nabu/relay/Backoff", "next", "()J"⟩ : MethodName)) hown (mvT hZ (hw _ (List.mem_of_getElem? (i := 16) rfl))) (mvT hZ (hw _ (List.mem_of_getElem? (i := 17) rfl))) (notFace_of_selects (args := #[]) (mvT hZ (hw _ (List.mem_of_getElem? (i := 19) rfl)))) (mvT hZ (hw _ (List.mem_of_getElem? (i := 19) rfl))) (mvT hZ (hw _ (List.mem_of_getElem? (i := 18) rfl))) (by decide) (backOf (W := 0) (rmN l Z a0 hw [] b1 (own_m q1) (own_m q2) (own_m q1) T2.heap n0 (Nat.le_trans (Nat.le_trans Z0 E1.1) K2.1) p2_0 p2_1 p2_2 (A1.keep K2) g_b1) hZ (hw _ (List.mem_of_getElem? (i := 20) rfl)) (hw _ (List.mem_of_getElem? (i := 3) rfl)) (by decide) (by decide)) q3a q3c (g := (mkF m 29 #[.val (.long q1), .second, .val (.long q2), .second, .val (.long (own_m q1)), .second, .val (.long (own_m q2)), .second, .val (.ref b1), .unset, .unset, .unset, .unset, .unset, .unset, .unset, .unset, .unset, .unset, .unset, .unset, .unset, .unset] [(.ref b1)])) rfl (by rw [hml]; rfl) (Steps.refl _) (argsL := []) (rest := []) (lenOf pd_2 rfl) rfl (by show 2 * 0 + _ ≤ _; exact Nat.le_of_eq rfl) (hb hby at_29) (fun _ _ => ⟨rfl, rfl, (by decide : 1 + 0 ≤ _), (by decide : 3 + 0 ≤ _)⟩)
  dsimp only [Pt.U, Pt.locs, Pt.cells, Pt.slots] at X3 l3 y3 z3 st3 hQ3
  subst l3 y3 z3
  obtain ⟨rfl, N3q, K3, p3_0, p3_1, p3_2⟩ := hQ3
  have N3 := Fr.app N2 N3q
  have Q3 : Keep h0 T3.heap [] := Q2.trans K3 (allS (Or.inr sz_b1) all0)
  obtain ⟨cq4, kq4, q4a, q4b, q4c⟩ := isOf hZ rfl ((A1.keep K2).keep K3)
  obtain ⟨_, _, ⟨T4, L4, k4, n4⟩, -, X4, ⟨Lc4, hQ4, l4, y4, z4⟩, st4⟩ := X3.virtualBack hx (y := (⟨"com/example/nabu/nabu/relay/Backoff", "next", "()J"⟩ : MethodName)) (z := (⟨"com/example/nabu/nabu/relay/Backoff", "next", "()J"⟩ : MethodName)) hown (mvT hZ (hw _ (List.mem_of_getElem? (i := 16) rfl))) (mvT hZ (hw _ (List.mem_of_getElem? (i := 17) rfl))) (notFace_of_selects (args := #[]) (mvT hZ (hw _ (List.mem_of_getElem? (i := 19) rfl)))) (mvT hZ (hw _ (List.mem_of_getElem? (i := 19) rfl))) (mvT hZ (hw _ (List.mem_of_getElem? (i := 18) rfl))) (by decide) (backOf (W := 0) (rmN l Z a0 hw [] b1 (own_m q1) (own_m q2) (own_minL ((2 : Int64) * (own_m q1)) (own_m q2)) T3.heap n0 (Nat.le_trans (Nat.le_trans (Nat.le_trans Z0 E1.1) K2.1) K3.1) p3_0 p3_1 p3_2 ((A1.keep K2).keep K3) g_b1) hZ (hw _ (List.mem_of_getElem? (i := 20) rfl)) (hw _ (List.mem_of_getElem? (i := 3) rfl)) (by decide) (by decide)) q4a q4c (g := (mkF m 36 #[.val (.long q1), .second, .val (.long q2), .second, .val (.long (own_m q1)), .second, .val (.long (own_m q2)), .second, .val (.ref b1), .val (.long (own_m q1)), .second, .unset, .unset, .unset, .unset, .unset, .unset, .unset, .unset, .unset, .unset, .unset, .unset] [(.ref b1)])) rfl (by rw [hml]; rfl) (Steps.refl _) (argsL := []) (rest := []) (lenOf pd_2 rfl) rfl (by show 2 * 0 + _ ≤ _; exact Nat.le_of_eq rfl) (hb hby at_36) (fun _ _ => ⟨rfl, rfl, (by decide : 1 + 0 ≤ _), (by decide : 3 + 0 ≤ _)⟩)
  dsimp only [Pt.U, Pt.locs, Pt.cells, Pt.slots] at X4 l4 y4 z4 st4 hQ4
  subst l4 y4 z4
  obtain ⟨rfl, N4q, K4, p4_0, p4_1, p4_2⟩ := hQ4
  have N4 := Fr.app N3 N4q
  have Q4 : Keep h0 T4.heap [] := Q3.trans K4 (allS (Or.inr sz_b1) all0)
  obtain ⟨cq5, kq5, q5a, q5b, q5c⟩ := isOf hZ rfl (((A1.keep K2).keep K3).keep K4)
  obtain ⟨_, _, ⟨T5, L5, k5, n5⟩, -, X5, ⟨Lc5, hQ5, l5, y5, z5⟩, st5⟩ := X4.virtualBack hx (y := (⟨"com/example/nabu/nabu/relay/Backoff", "next", "()J"⟩ : MethodName)) (z := (⟨"com/example/nabu/nabu/relay/Backoff", "next", "()J"⟩ : MethodName)) hown (mvT hZ (hw _ (List.mem_of_getElem? (i := 16) rfl))) (mvT hZ (hw _ (List.mem_of_getElem? (i := 17) rfl))) (notFace_of_selects (args := #[]) (mvT hZ (hw _ (List.mem_of_getElem? (i := 19) rfl)))) (mvT hZ (hw _ (List.mem_of_getElem? (i := 19) rfl))) (mvT hZ (hw _ (List.mem_of_getElem? (i := 18) rfl))) (by decide) (backOf (W := 0) (rmN l Z a0 hw [] b1 (own_m q1) (own_m q2) (own_minL ((2 : Int64) * (own_minL ((2 : Int64) * (own_m q1)) (own_m q2))) (own_m q2)) T4.heap n0 (Nat.le_trans (Nat.le_trans (Nat.le_trans (Nat.le_trans Z0 E1.1) K2.1) K3.1) K4.1) p4_0 p4_1 p4_2 (((A1.keep K2).keep K3).keep K4) g_b1) hZ (hw _ (List.mem_of_getElem? (i := 20) rfl)) (hw _ (List.mem_of_getElem? (i := 3) rfl)) (by decide) (by decide)) q5a q5c (g := (mkF m 43 #[.val (.long q1), .second, .val (.long q2), .second, .val (.long (own_m q1)), .second, .val (.long (own_m q2)), .second, .val (.ref b1), .val (.long (own_m q1)), .second, .val (.long (own_minL ((2 : Int64) * (own_m q1)) (own_m q2))), .second, .unset, .unset, .unset, .unset, .unset, .unset, .unset, .unset, .unset, .unset] [(.ref b1)])) rfl (by rw [hml]; rfl) (Steps.refl _) (argsL := []) (rest := []) (lenOf pd_2 rfl) rfl (by show 2 * 0 + _ ≤ _; exact Nat.le_of_eq rfl) (hb hby at_43) (fun _ _ => ⟨rfl, rfl, (by decide : 1 + 0 ≤ _), (by decide : 3 + 0 ≤ _)⟩)
  dsimp only [Pt.U, Pt.locs, Pt.cells, Pt.slots] at X5 l5 y5 z5 st5 hQ5
  subst l5 y5 z5
  obtain ⟨rfl, N5q, K5, p5_0, p5_1, p5_2⟩ := hQ5
  have N5 := Fr.app N4 N5q
  have Q5 : Keep h0 T5.heap [] := Q4.trans K5 (allS (Or.inr sz_b1) all0)
  obtain ⟨cq6, kq6, q6a, q6b, q6c⟩ := isOf hZ rfl ((((A1.keep K2).keep K3).keep K4).keep K5)
  obtain ⟨_, _, ⟨T6, L6, k6, n6⟩, -, X6, ⟨Lc6, hQ6, l6, y6, z6⟩, st6⟩ := X5.virtualBack hx (y := (⟨"com/example/nabu/nabu/relay/Backoff", "next", "()J"⟩ : MethodName)) (z := (⟨"com/example/nabu/nabu/relay/Backoff", "next", "()J"⟩ : MethodName)) hown (mvT hZ (hw _ (List.mem_of_getElem? (i := 16) rfl))) (mvT hZ (hw _ (List.mem_of_getElem? (i := 17) rfl))) (notFace_of_selects (args := #[]) (mvT hZ (hw _ (List.mem_of_getElem? (i := 19) rfl)))) (mvT hZ (hw _ (List.mem_of_getElem? (i := 19) rfl))) (mvT hZ (hw _ (List.mem_of_getElem? (i := 18) rfl))) (by decide) (backOf (W := 0) (rmN l Z a0 hw [] b1 (own_m q1) (own_m q2) (own_minL ((2 : Int64) * (own_minL ((2 : Int64) * (own_minL ((2 : Int64) * (own_m q1)) (own_m q2))) (own_m q2))) (own_m q2)) T5.heap n0 (Nat.le_trans (Nat.le_trans (Nat.le_trans (Nat.le_trans (Nat.le_trans Z0 E1.1) K2.1) K3.1) K4.1) K5.1) p5_0 p5_1 p5_2 ((((A1.keep K2).keep K3).keep K4).keep K5) g_b1) hZ (hw _ (List.mem_of_getElem? (i := 20) rfl)) (hw _ (List.mem_of_getElem? (i := 3) rfl)) (by decide) (by decide)) q6a q6c (g := (mkF m 50 #[.val (.long q1), .second, .val (.long q2), .second, .val (.long (own_m q1)), .second, .val (.long (own_m q2)), .second, .val (.ref b1), .val (.long (own_m q1)), .second, .val (.long (own_minL ((2 : Int64) * (own_m q1)) (own_m q2))), .second, .val (.long (own_minL ((2 : Int64) * (own_minL ((2 : Int64) * (own_m q1)) (own_m q2))) (own_m q2))), .second, .unset, .unset, .unset, .unset, .unset, .unset, .unset, .unset] [(.ref b1)])) rfl (by rw [hml]; rfl) (Steps.refl _) (argsL := []) (rest := []) (lenOf pd_2 rfl) rfl (by show 2 * 0 + _ ≤ _; exact Nat.le_of_eq rfl) (hb hby at_50) (fun _ _ => ⟨rfl, rfl, (by decide : 1 + 0 ≤ _), (by decide : 3 + 0 ≤ _)⟩)
  dsimp only [Pt.U, Pt.locs, Pt.cells, Pt.slots] at X6 l6 y6 z6 st6 hQ6
  subst l6 y6 z6
  obtain ⟨rfl, N6q, K6, p6_0, p6_1, p6_2⟩ := hQ6
  have N6 := Fr.app N5 N6q
  have Q6 : Keep h0 T6.heap [] := Q5.trans K6 (allS (Or.inr sz_b1) all0)
  obtain ⟨cq7, kq7, q7a, q7b, q7c⟩ := isOf hZ rfl (((((A1.keep K2).keep K3).keep K4).keep K5).keep K6)
  obtain ⟨_, _, ⟨T7, L7, k7, n7⟩, -, X7, ⟨Lc7, hQ7, l7, y7, z7⟩, st7⟩ := X6.virtualBack hx (y := (⟨"com/example/nabu/nabu/relay/Backoff", "next", "()J"⟩ : MethodName)) (z := (⟨"com/example/nabu/nabu/relay/Backoff", "next", "()J"⟩ : MethodName)) hown (mvT hZ (hw _ (List.mem_of_getElem? (i := 16) rfl))) (mvT hZ (hw _ (List.mem_of_getElem? (i := 17) rfl))) (notFace_of_selects (args := #[]) (mvT hZ (hw _ (List.mem_of_getElem? (i := 19) rfl)))) (mvT hZ (hw _ (List.mem_of_getElem? (i := 19) rfl))) (mvT hZ (hw _ (List.mem_of_getElem? (i := 18) rfl))) (by decide) (backOf (W := 0) (rmN l Z a0 hw [] b1 (own_m q1) (own_m q2) (own_minL ((2 : Int64) * (own_minL ((2 : Int64) * (own_minL ((2 : Int64) * (own_minL ((2 : Int64) * (own_m q1)) (own_m q2))) (own_m q2))) (own_m q2))) (own_m q2)) T6.heap n0 (Nat.le_trans (Nat.le_trans (Nat.le_trans (Nat.le_trans (Nat.le_trans (Nat.le_trans Z0 E1.1) K2.1) K3.1) K4.1) K5.1) K6.1) p6_0 p6_1 p6_2 (((((A1.keep K2).keep K3).keep K4).keep K5).keep K6) g_b1) hZ (hw _ (List.mem_of_getElem? (i := 20) rfl)) (hw _ (List.mem_of_getElem? (i := 3) rfl)) (by decide) (by decide)) q7a q7c (g := (mkF m 57 #[.val (.long q1), .second, .val (.long q2), .second, .val (.long (own_m q1)), .second, .val (.long (own_m q2)), .second, .val (.ref b1), .val (.long (own_m q1)), .second, .val (.long (own_minL ((2 : Int64) * (own_m q1)) (own_m q2))), .second, .val (.long (own_minL ((2 : Int64) * (own_minL ((2 : Int64) * (own_m q1)) (own_m q2))) (own_m q2))), .second, .val (.long (own_minL ((2 : Int64) * (own_minL ((2 : Int64) * (own_minL ((2 : Int64) * (own_m q1)) (own_m q2))) (own_m q2))) (own_m q2))), .second, .unset, .unset, .unset, .unset, .unset, .unset] [(.ref b1)])) rfl (by rw [hml]; rfl) (Steps.refl _) (argsL := []) (rest := []) (lenOf pd_2 rfl) rfl (by show 2 * 0 + _ ≤ _; exact Nat.le_of_eq rfl) (hb hby at_57) (fun _ _ => ⟨rfl, rfl, (by decide : 1 + 0 ≤ _), (by decide : 3 + 0 ≤ _)⟩)
  dsimp only [Pt.U, Pt.locs, Pt.cells, Pt.slots] at X7 l7 y7 z7 st7 hQ7
  subst l7 y7 z7
  obtain ⟨rfl, N7q, K7, p7_0, p7_1, p7_2⟩ := hQ7
  have N7 := Fr.app N6 N7q
  have Q7 : Keep h0 T7.heap [] := Q6.trans K7 (allS (Or.inr sz_b1) all0)
  obtain ⟨cq8, kq8, q8a, q8b, q8c⟩ := isOf hZ rfl ((((((A1.keep K2).keep K3).keep K4).keep K5).keep K6).keep K7)
  obtain ⟨_, _, ⟨T8, L8, k8, n8⟩, -, X8, ⟨Lc8, hQ8, l8, y8, z8⟩, st8⟩ := X7.virtualBack hx (y := (⟨"com/example/nabu/nabu/relay/Backoff", "reset", "()V"⟩ : MethodName)) (z := (⟨"com/example/nabu/nabu/relay/Backoff", "reset", "()V"⟩ : MethodName)) hown (mvT hZ (hw _ (List.mem_of_getElem? (i := 26) rfl))) (mvT hZ (hw _ (List.mem_of_getElem? (i := 27) rfl))) (notFace_of_selects (args := #[]) (mvT hZ (hw _ (List.mem_of_getElem? (i := 29) rfl)))) (mvT hZ (hw _ (List.mem_of_getElem? (i := 29) rfl))) (mvT hZ (hw _ (List.mem_of_getElem? (i := 28) rfl))) (by decide) (backOf (W := 0) (rmR l Z a0 hw [] b1 (own_m q1) (own_m q2) (own_minL ((2 : Int64) * (own_minL ((2 : Int64) * (own_minL ((2 : Int64) * (own_minL ((2 : Int64) * (own_minL ((2 : Int64) * (own_m q1)) (own_m q2))) (own_m q2))) (own_m q2))) (own_m q2))) (own_m q2)) T7.heap n0 (Nat.le_trans (Nat.le_trans (Nat.le_trans (Nat.le_trans (Nat.le_trans (Nat.le_trans (Nat.le_trans Z0 E1.1) K2.1) K3.1) K4.1) K5.1) K6.1) K7.1) p7_0 p7_1 p7_2 ((((((A1.keep K2).keep K3).keep K4).keep K5).keep K6).keep K7) g_b1) hZ (hw _ (List.mem_of_getElem? (i := 30) rfl)) (hw _ (List.mem_of_getElem? (i := 3) rfl)) (by decide) (by decide)) q8a q8c (g := (mkF m 64 #[.val (.long q1), .second, .val (.long q2), .second, .val (.long (own_m q1)), .second, .val (.long (own_m q2)), .second, .val (.ref b1), .val (.long (own_m q1)), .second, .val (.long (own_minL ((2 : Int64) * (own_m q1)) (own_m q2))), .second, .val (.long (own_minL ((2 : Int64) * (own_minL ((2 : Int64) * (own_m q1)) (own_m q2))) (own_m q2))), .second, .val (.long (own_minL ((2 : Int64) * (own_minL ((2 : Int64) * (own_minL ((2 : Int64) * (own_m q1)) (own_m q2))) (own_m q2))) (own_m q2))), .second, .val (.long (own_minL ((2 : Int64) * (own_minL ((2 : Int64) * (own_minL ((2 : Int64) * (own_minL ((2 : Int64) * (own_m q1)) (own_m q2))) (own_m q2))) (own_m q2))) (own_m q2))), .second, .unset, .unset, .unset, .unset] [(.ref b1)])) rfl (by rw [hml]; rfl) (Steps.refl _) (argsL := []) (rest := []) (lenOf pd_3 rfl) rfl (by show 2 * 0 + _ ≤ _; exact Nat.le_of_eq rfl) (hb hby at_64) (fun _ _ => ⟨rfl, rfl, (by decide : 1 + 0 ≤ _), (by decide : 3 + 0 ≤ _)⟩)
  dsimp only [Pt.U, Pt.locs, Pt.cells, Pt.slots] at X8 l8 y8 z8 st8 hQ8
  subst l8 y8 z8
  obtain ⟨rfl, N8q, K8, p8_0, p8_1, p8_2⟩ := hQ8
  have N8 := Fr.app N7 N8q
  have Q8 : Keep h0 T8.heap [] := Q7.trans K8 (allS (Or.inr sz_b1) all0)
  obtain ⟨cq9, kq9, q9a, q9b, q9c⟩ := isOf hZ rfl (((((((A1.keep K2).keep K3).keep K4).keep K5).keep K6).keep K7).keep K8)
  obtain ⟨_, _, ⟨T9, L9, k9, n9⟩, -, X9, ⟨Lc9, hQ9, l9, y9, z9⟩, st9⟩ := X8.virtualBack hx (y := (⟨"com/example/nabu/nabu/relay/Backoff", "next", "()J"⟩ : MethodName)) (z := (⟨"com/example/nabu/nabu/relay/Backoff", "next", "()J"⟩ : MethodName)) hown (mvT hZ (hw _ (List.mem_of_getElem? (i := 16) rfl))) (mvT hZ (hw _ (List.mem_of_getElem? (i := 17) rfl))) (notFace_of_selects (args := #[]) (mvT hZ (hw _ (List.mem_of_getElem? (i := 19) rfl)))) (mvT hZ (hw _ (List.mem_of_getElem? (i := 19) rfl))) (mvT hZ (hw _ (List.mem_of_getElem? (i := 18) rfl))) (by decide) (backOf (W := 0) (rmN l Z a0 hw [] b1 (own_m q1) (own_m q2) (own_m q1) T8.heap n0 (Nat.le_trans (Nat.le_trans (Nat.le_trans (Nat.le_trans (Nat.le_trans (Nat.le_trans (Nat.le_trans (Nat.le_trans Z0 E1.1) K2.1) K3.1) K4.1) K5.1) K6.1) K7.1) K8.1) p8_0 p8_1 p8_2 (((((((A1.keep K2).keep K3).keep K4).keep K5).keep K6).keep K7).keep K8) g_b1) hZ (hw _ (List.mem_of_getElem? (i := 20) rfl)) (hw _ (List.mem_of_getElem? (i := 3) rfl)) (by decide) (by decide)) q9a q9c (g := (mkF m 69 #[.val (.long q1), .second, .val (.long q2), .second, .val (.long (own_m q1)), .second, .val (.long (own_m q2)), .second, .val (.ref b1), .val (.long (own_m q1)), .second, .val (.long (own_minL ((2 : Int64) * (own_m q1)) (own_m q2))), .second, .val (.long (own_minL ((2 : Int64) * (own_minL ((2 : Int64) * (own_m q1)) (own_m q2))) (own_m q2))), .second, .val (.long (own_minL ((2 : Int64) * (own_minL ((2 : Int64) * (own_minL ((2 : Int64) * (own_m q1)) (own_m q2))) (own_m q2))) (own_m q2))), .second, .val (.long (own_minL ((2 : Int64) * (own_minL ((2 : Int64) * (own_minL ((2 : Int64) * (own_minL ((2 : Int64) * (own_m q1)) (own_m q2))) (own_m q2))) (own_m q2))) (own_m q2))), .second, .unset, .unset, .unset, .unset] [(.ref b1)])) rfl (by rw [hml]; rfl) (Steps.refl _) (argsL := []) (rest := []) (lenOf pd_2 rfl) rfl (by show 2 * 0 + _ ≤ _; exact Nat.le_of_eq rfl) (hb hby at_69) (fun _ _ => ⟨rfl, rfl, (by decide : 1 + 0 ≤ _), (by decide : 3 + 0 ≤ _)⟩)
  dsimp only [Pt.U, Pt.locs, Pt.cells, Pt.slots] at X9 l9 y9 z9 st9 hQ9
  subst l9 y9 z9
  obtain ⟨rfl, N9q, K9, p9_0, p9_1, p9_2⟩ := hQ9
  have N9 := Fr.app N8 N9q
  have Q9 : Keep h0 T9.heap [] := Q8.trans K9 (allS (Or.inr sz_b1) all0)
  obtain ⟨cq10, kq10, q10a, q10b, q10c⟩ := isOf hZ rfl ((((((((A1.keep K2).keep K3).keep K4).keep K5).keep K6).keep K7).keep K8).keep K9)
  obtain ⟨_, _, ⟨T10, L10, k10, n10⟩, -, X10, ⟨Lc10, hQ10, l10, y10, z10⟩, st10⟩ := X9.virtualBack hx (y := (⟨"com/example/nabu/nabu/relay/Backoff", "next", "()J"⟩ : MethodName)) (z := (⟨"com/example/nabu/nabu/relay/Backoff", "next", "()J"⟩ : MethodName)) hown (mvT hZ (hw _ (List.mem_of_getElem? (i := 16) rfl))) (mvT hZ (hw _ (List.mem_of_getElem? (i := 17) rfl))) (notFace_of_selects (args := #[]) (mvT hZ (hw _ (List.mem_of_getElem? (i := 19) rfl)))) (mvT hZ (hw _ (List.mem_of_getElem? (i := 19) rfl))) (mvT hZ (hw _ (List.mem_of_getElem? (i := 18) rfl))) (by decide) (backOf (W := 0) (rmN l Z a0 hw [] b1 (own_m q1) (own_m q2) (own_minL ((2 : Int64) * (own_m q1)) (own_m q2)) T9.heap n0 (Nat.le_trans (Nat.le_trans (Nat.le_trans (Nat.le_trans (Nat.le_trans (Nat.le_trans (Nat.le_trans (Nat.le_trans (Nat.le_trans Z0 E1.1) K2.1) K3.1) K4.1) K5.1) K6.1) K7.1) K8.1) K9.1) p9_0 p9_1 p9_2 ((((((((A1.keep K2).keep K3).keep K4).keep K5).keep K6).keep K7).keep K8).keep K9) g_b1) hZ (hw _ (List.mem_of_getElem? (i := 20) rfl)) (hw _ (List.mem_of_getElem? (i := 3) rfl)) (by decide) (by decide)) q10a q10c (g := (mkF m 76 #[.val (.long q1), .second, .val (.long q2), .second, .val (.long (own_m q1)), .second, .val (.long (own_m q2)), .second, .val (.ref b1), .val (.long (own_m q1)), .second, .val (.long (own_minL ((2 : Int64) * (own_m q1)) (own_m q2))), .second, .val (.long (own_minL ((2 : Int64) * (own_minL ((2 : Int64) * (own_m q1)) (own_m q2))) (own_m q2))), .second, .val (.long (own_minL ((2 : Int64) * (own_minL ((2 : Int64) * (own_minL ((2 : Int64) * (own_m q1)) (own_m q2))) (own_m q2))) (own_m q2))), .second, .val (.long (own_minL ((2 : Int64) * (own_minL ((2 : Int64) * (own_minL ((2 : Int64) * (own_minL ((2 : Int64) * (own_m q1)) (own_m q2))) (own_m q2))) (own_m q2))) (own_m q2))), .second, .val (.long (own_m q1)), .second, .unset, .unset] [(.ref b1)])) rfl (by rw [hml]; rfl) (Steps.refl _) (argsL := []) (rest := []) (lenOf pd_2 rfl) rfl (by show 2 * 0 + _ ≤ _; exact Nat.le_of_eq rfl) (hb hby at_76) (fun _ _ => ⟨rfl, rfl, (by decide : 1 + 0 ≤ _), (by decide : 3 + 0 ≤ _)⟩)
  dsimp only [Pt.U, Pt.locs, Pt.cells, Pt.slots] at X10 l10 y10 z10 st10 hQ10
  subst l10 y10 z10
  obtain ⟨rfl, N10q, K10, p10_0, p10_1, p10_2⟩ := hQ10
  have N10 := Fr.app N9 N10q
  have Q10 : Keep h0 T10.heap [] := Q9.trans K10 (allS (Or.inr sz_b1) all0)
  obtain ⟨_, _, ⟨T11, L11, k11, n11⟩, -, X11, ⟨Lc11, hQ11, l11, y11, z11⟩, st11⟩ := Jvm.LawKit.callS X10 hx (y := (⟨"com/example/nabu/nabu/relay/BackoffNextPinLaw", "expected", "(JJI)J"⟩ : MethodName)) hown (mvT hZ (hw _ (List.mem_of_getElem? (i := 31) rfl))) (mvT hZ (hw _ (List.mem_of_getElem? (i := 32) rfl))) (mvT hZ (hw _ (List.mem_of_getElem? (i := 33) rfl))) (mvT hZ (hw _ (List.mem_of_getElem? (i := 34) rfl))) (by decide) (backOf (W := 2) (rmE l Z a0 hw [] (own_m q1) (own_m q2) (0 : Int32) T10.heap n0 (Nat.le_trans (Nat.le_trans (Nat.le_trans (Nat.le_trans (Nat.le_trans (Nat.le_trans (Nat.le_trans (Nat.le_trans (Nat.le_trans (Nat.le_trans Z0 E1.1) K2.1) K3.1) K4.1) K5.1) K6.1) K7.1) K8.1) K9.1) K10.1) ) hZ (hw _ (List.mem_of_getElem? (i := 34) rfl)) (hw _ (List.mem_of_getElem? (i := 33) rfl)) (by decide) (by decide)) (g := (mkF m 88 #[.val (.long q1), .second, .val (.long q2), .second, .val (.long (own_m q1)), .second, .val (.long (own_m q2)), .second, .val (.ref b1), .val (.long (own_m q1)), .second, .val (.long (own_minL ((2 : Int64) * (own_m q1)) (own_m q2))), .second, .val (.long (own_minL ((2 : Int64) * (own_minL ((2 : Int64) * (own_m q1)) (own_m q2))) (own_m q2))), .second, .val (.long (own_minL ((2 : Int64) * (own_minL ((2 : Int64) * (own_minL ((2 : Int64) * (own_m q1)) (own_m q2))) (own_m q2))) (own_m q2))), .second, .val (.long (own_minL ((2 : Int64) * (own_minL ((2 : Int64) * (own_minL ((2 : Int64) * (own_minL ((2 : Int64) * (own_m q1)) (own_m q2))) (own_m q2))) (own_m q2))) (own_m q2))), .second, .val (.long (own_m q1)), .second, .val (.long (own_minL ((2 : Int64) * (own_m q1)) (own_m q2))), .second] [(.int (0 : Int32)), (.long (own_m q2)), (.long (own_m q1)), (.long (own_m q1))])) rfl (by rw [hml]; rfl) (argsL := [(.long (own_m q1)), (.long (own_m q2)), (.int (0 : Int32))]) (rest := [(.long (own_m q1))]) (lenOf pd_4 rfl) rfl (by show 2 * 0 + _ ≤ _; exact Nat.le_of_eq rfl) (hb hby at_88) (fun _ _ => ⟨rfl, rfl, (by decide : 1 + 0 ≤ _), (by decide : 3 + 0 ≤ _)⟩)
  dsimp only [Pt.U, Pt.locs, Pt.cells, Pt.slots] at X11 l11 y11 z11 st11 hQ11
  subst l11 y11 z11
  obtain ⟨rfl, N11q, e11⟩ := hQ11
  have N11 := Fr.app N10 N11q
  obtain ⟨_, _, ⟨T12, L12, k12, n12⟩, -, X12, ⟨Lc12, hQ12, l12, y12, z12⟩, st12⟩ := Jvm.LawKit.callS X11 hx (y := (⟨"com/example/nabu/nabu/relay/BackoffNextPinLaw", "expected", "(JJI)J"⟩ : MethodName)) hown (mvT hZ (hw _ (List.mem_of_getElem? (i := 31) rfl))) (mvT hZ (hw _ (List.mem_of_getElem? (i := 32) rfl))) (mvT hZ (hw _ (List.mem_of_getElem? (i := 33) rfl))) (mvT hZ (hw _ (List.mem_of_getElem? (i := 34) rfl))) (by decide) (backOf (W := 2) (rmE l Z a0 hw [] (own_m q1) (own_m q2) (1 : Int32) T10.heap n0 (Nat.le_trans (Nat.le_trans (Nat.le_trans (Nat.le_trans (Nat.le_trans (Nat.le_trans (Nat.le_trans (Nat.le_trans (Nat.le_trans (Nat.le_trans Z0 E1.1) K2.1) K3.1) K4.1) K5.1) K6.1) K7.1) K8.1) K9.1) K10.1) ) hZ (hw _ (List.mem_of_getElem? (i := 34) rfl)) (hw _ (List.mem_of_getElem? (i := 33) rfl)) (by decide) (by decide)) (g := (mkF m 102 #[.val (.long q1), .second, .val (.long q2), .second, .val (.long (own_m q1)), .second, .val (.long (own_m q2)), .second, .val (.ref b1), .val (.long (own_m q1)), .second, .val (.long (own_minL ((2 : Int64) * (own_m q1)) (own_m q2))), .second, .val (.long (own_minL ((2 : Int64) * (own_minL ((2 : Int64) * (own_m q1)) (own_m q2))) (own_m q2))), .second, .val (.long (own_minL ((2 : Int64) * (own_minL ((2 : Int64) * (own_minL ((2 : Int64) * (own_m q1)) (own_m q2))) (own_m q2))) (own_m q2))), .second, .val (.long (own_minL ((2 : Int64) * (own_minL ((2 : Int64) * (own_minL ((2 : Int64) * (own_minL ((2 : Int64) * (own_m q1)) (own_m q2))) (own_m q2))) (own_m q2))) (own_m q2))), .second, .val (.long (own_m q1)), .second, .val (.long (own_minL ((2 : Int64) * (own_m q1)) (own_m q2))), .second] [(.int (1 : Int32)), (.long (own_m q2)), (.long (own_m q1)), (.long (own_minL ((2 : Int64) * (own_m q1)) (own_m q2)))])) rfl (by rw [hml]; rfl) (argsL := [(.long (own_m q1)), (.long (own_m q2)), (.int (1 : Int32))]) (rest := [(.long (own_minL ((2 : Int64) * (own_m q1)) (own_m q2)))]) (lenOf pd_4 rfl) rfl (by show 2 * 0 + _ ≤ _; exact Nat.le_of_eq rfl) (hb hby at_102) (fun _ _ => ⟨rfl, e11, (by decide : 1 + 0 ≤ _), (by decide : 3 + 0 ≤ _)⟩)
  dsimp only [Pt.U, Pt.locs, Pt.cells, Pt.slots] at X12 l12 y12 z12 st12 hQ12
  subst l12 y12 z12
  obtain ⟨rfl, N12q, e12⟩ := hQ12
  have N12 := Fr.app N11 N12q
  obtain ⟨_, _, ⟨T13, L13, k13, n13⟩, -, X13, ⟨Lc13, hQ13, l13, y13, z13⟩, st13⟩ := Jvm.LawKit.callS X12 hx (y := (⟨"com/example/nabu/nabu/relay/BackoffNextPinLaw", "expected", "(JJI)J"⟩ : MethodName)) hown (mvT hZ (hw _ (List.mem_of_getElem? (i := 31) rfl))) (mvT hZ (hw _ (List.mem_of_getElem? (i := 32) rfl))) (mvT hZ (hw _ (List.mem_of_getElem? (i := 33) rfl))) (mvT hZ (hw _ (List.mem_of_getElem? (i := 34) rfl))) (by decide) (backOf (W := 2) (rmE l Z a0 hw [] (own_m q1) (own_m q2) (2 : Int32) T10.heap n0 (Nat.le_trans (Nat.le_trans (Nat.le_trans (Nat.le_trans (Nat.le_trans (Nat.le_trans (Nat.le_trans (Nat.le_trans (Nat.le_trans (Nat.le_trans Z0 E1.1) K2.1) K3.1) K4.1) K5.1) K6.1) K7.1) K8.1) K9.1) K10.1) ) hZ (hw _ (List.mem_of_getElem? (i := 34) rfl)) (hw _ (List.mem_of_getElem? (i := 33) rfl)) (by decide) (by decide)) (g := (mkF m 116 #[.val (.long q1), .second, .val (.long q2), .second, .val (.long (own_m q1)), .second, .val (.long (own_m q2)), .second, .val (.ref b1), .val (.long (own_m q1)), .second, .val (.long (own_minL ((2 : Int64) * (own_m q1)) (own_m q2))), .second, .val (.long (own_minL ((2 : Int64) * (own_minL ((2 : Int64) * (own_m q1)) (own_m q2))) (own_m q2))), .second, .val (.long (own_minL ((2 : Int64) * (own_minL ((2 : Int64) * (own_minL ((2 : Int64) * (own_m q1)) (own_m q2))) (own_m q2))) (own_m q2))), .second, .val (.long (own_minL ((2 : Int64) * (own_minL ((2 : Int64) * (own_minL ((2 : Int64) * (own_minL ((2 : Int64) * (own_m q1)) (own_m q2))) (own_m q2))) (own_m q2))) (own_m q2))), .second, .val (.long (own_m q1)), .second, .val (.long (own_minL ((2 : Int64) * (own_m q1)) (own_m q2))), .second] [(.int (2 : Int32)), (.long (own_m q2)), (.long (own_m q1)), (.long (own_minL ((2 : Int64) * (own_minL ((2 : Int64) * (own_m q1)) (own_m q2))) (own_m q2)))])) rfl (by rw [hml]; rfl) (argsL := [(.long (own_m q1)), (.long (own_m q2)), (.int (2 : Int32))]) (rest := [(.long (own_minL ((2 : Int64) * (own_minL ((2 : Int64) * (own_m q1)) (own_m q2))) (own_m q2)))]) (lenOf pd_4 rfl) rfl (by show 2 * 0 + _ ≤ _; exact Nat.le_of_eq rfl) (hb hby at_116) (fun _ _ => ⟨rfl, e12, (by decide : 1 + 0 ≤ _), (by decide : 3 + 0 ≤ _)⟩)
  dsimp only [Pt.U, Pt.locs, Pt.cells, Pt.slots] at X13 l13 y13 z13 st13 hQ13
  subst l13 y13 z13
  obtain ⟨rfl, N13q, e13⟩ := hQ13
  have N13 := Fr.app N12 N13q
  obtain ⟨_, _, ⟨T14, L14, k14, n14⟩, -, X14, ⟨Lc14, hQ14, l14, y14, z14⟩, st14⟩ := Jvm.LawKit.callS X13 hx (y := (⟨"com/example/nabu/nabu/relay/BackoffNextPinLaw", "expected", "(JJI)J"⟩ : MethodName)) hown (mvT hZ (hw _ (List.mem_of_getElem? (i := 31) rfl))) (mvT hZ (hw _ (List.mem_of_getElem? (i := 32) rfl))) (mvT hZ (hw _ (List.mem_of_getElem? (i := 33) rfl))) (mvT hZ (hw _ (List.mem_of_getElem? (i := 34) rfl))) (by decide) (backOf (W := 2) (rmE l Z a0 hw [] (own_m q1) (own_m q2) (3 : Int32) T10.heap n0 (Nat.le_trans (Nat.le_trans (Nat.le_trans (Nat.le_trans (Nat.le_trans (Nat.le_trans (Nat.le_trans (Nat.le_trans (Nat.le_trans (Nat.le_trans Z0 E1.1) K2.1) K3.1) K4.1) K5.1) K6.1) K7.1) K8.1) K9.1) K10.1) ) hZ (hw _ (List.mem_of_getElem? (i := 34) rfl)) (hw _ (List.mem_of_getElem? (i := 33) rfl)) (by decide) (by decide)) (g := (mkF m 130 #[.val (.long q1), .second, .val (.long q2), .second, .val (.long (own_m q1)), .second, .val (.long (own_m q2)), .second, .val (.ref b1), .val (.long (own_m q1)), .second, .val (.long (own_minL ((2 : Int64) * (own_m q1)) (own_m q2))), .second, .val (.long (own_minL ((2 : Int64) * (own_minL ((2 : Int64) * (own_m q1)) (own_m q2))) (own_m q2))), .second, .val (.long (own_minL ((2 : Int64) * (own_minL ((2 : Int64) * (own_minL ((2 : Int64) * (own_m q1)) (own_m q2))) (own_m q2))) (own_m q2))), .second, .val (.long (own_minL ((2 : Int64) * (own_minL ((2 : Int64) * (own_minL ((2 : Int64) * (own_minL ((2 : Int64) * (own_m q1)) (own_m q2))) (own_m q2))) (own_m q2))) (own_m q2))), .second, .val (.long (own_m q1)), .second, .val (.long (own_minL ((2 : Int64) * (own_m q1)) (own_m q2))), .second] [(.int (3 : Int32)), (.long (own_m q2)), (.long (own_m q1)), (.long (own_minL ((2 : Int64) * (own_minL ((2 : Int64) * (own_minL ((2 : Int64) * (own_m q1)) (own_m q2))) (own_m q2))) (own_m q2)))])) rfl (by rw [hml]; rfl) (argsL := [(.long (own_m q1)), (.long (own_m q2)), (.int (3 : Int32))]) (rest := [(.long (own_minL ((2 : Int64) * (own_minL ((2 : Int64) * (own_minL ((2 : Int64) * (own_m q1)) (own_m q2))) (own_m q2))) (own_m q2)))]) (lenOf pd_4 rfl) rfl (by show 2 * 0 + _ ≤ _; exact Nat.le_of_eq rfl) (hb hby at_130) (fun _ _ => ⟨rfl, e13, (by decide : 1 + 0 ≤ _), (by decide : 3 + 0 ≤ _)⟩)
  dsimp only [Pt.U, Pt.locs, Pt.cells, Pt.slots] at X14 l14 y14 z14 st14 hQ14
  subst l14 y14 z14
  obtain ⟨rfl, N14q, e14⟩ := hQ14
  have N14 := Fr.app N13 N14q
  obtain ⟨_, _, ⟨T15, L15, k15, n15⟩, -, X15, ⟨Lc15, hQ15, l15, y15, z15⟩, st15⟩ := Jvm.LawKit.callS X14 hx (y := (⟨"com/example/nabu/nabu/relay/BackoffNextPinLaw", "expected", "(JJI)J"⟩ : MethodName)) hown (mvT hZ (hw _ (List.mem_of_getElem? (i := 31) rfl))) (mvT hZ (hw _ (List.mem_of_getElem? (i := 32) rfl))) (mvT hZ (hw _ (List.mem_of_getElem? (i := 33) rfl))) (mvT hZ (hw _ (List.mem_of_getElem? (i := 34) rfl))) (by decide) (backOf (W := 2) (rmE l Z a0 hw [] (own_m q1) (own_m q2) (4 : Int32) T10.heap n0 (Nat.le_trans (Nat.le_trans (Nat.le_trans (Nat.le_trans (Nat.le_trans (Nat.le_trans (Nat.le_trans (Nat.le_trans (Nat.le_trans (Nat.le_trans Z0 E1.1) K2.1) K3.1) K4.1) K5.1) K6.1) K7.1) K8.1) K9.1) K10.1) ) hZ (hw _ (List.mem_of_getElem? (i := 34) rfl)) (hw _ (List.mem_of_getElem? (i := 33) rfl)) (by decide) (by decide)) (g := (mkF m 144 #[.val (.long q1), .second, .val (.long q2), .second, .val (.long (own_m q1)), .second, .val (.long (own_m q2)), .second, .val (.ref b1), .val (.long (own_m q1)), .second, .val (.long (own_minL ((2 : Int64) * (own_m q1)) (own_m q2))), .second, .val (.long (own_minL ((2 : Int64) * (own_minL ((2 : Int64) * (own_m q1)) (own_m q2))) (own_m q2))), .second, .val (.long (own_minL ((2 : Int64) * (own_minL ((2 : Int64) * (own_minL ((2 : Int64) * (own_m q1)) (own_m q2))) (own_m q2))) (own_m q2))), .second, .val (.long (own_minL ((2 : Int64) * (own_minL ((2 : Int64) * (own_minL ((2 : Int64) * (own_minL ((2 : Int64) * (own_m q1)) (own_m q2))) (own_m q2))) (own_m q2))) (own_m q2))), .second, .val (.long (own_m q1)), .second, .val (.long (own_minL ((2 : Int64) * (own_m q1)) (own_m q2))), .second] [(.int (4 : Int32)), (.long (own_m q2)), (.long (own_m q1)), (.long (own_minL ((2 : Int64) * (own_minL ((2 : Int64) * (own_minL ((2 : Int64) * (own_minL ((2 : Int64) * (own_m q1)) (own_m q2))) (own_m q2))) (own_m q2))) (own_m q2)))])) rfl (by rw [hml]; rfl) (argsL := [(.long (own_m q1)), (.long (own_m q2)), (.int (4 : Int32))]) (rest := [(.long (own_minL ((2 : Int64) * (own_minL ((2 : Int64) * (own_minL ((2 : Int64) * (own_minL ((2 : Int64) * (own_m q1)) (own_m q2))) (own_m q2))) (own_m q2))) (own_m q2)))]) (lenOf pd_4 rfl) rfl (by show 2 * 0 + _ ≤ _; exact Nat.le_of_eq rfl) (hb hby at_144) (fun _ _ => ⟨rfl, e14, (by decide : 1 + 0 ≤ _), (by decide : 3 + 0 ≤ _)⟩)
  dsimp only [Pt.U, Pt.locs, Pt.cells, Pt.slots] at X15 l15 y15 z15 st15 hQ15
  subst l15 y15 z15
  obtain ⟨rfl, N15q, e15⟩ := hQ15
  have N15 := Fr.app N14 N15q
  obtain ⟨_, _, ⟨T16, L16, k16, n16⟩, -, X16, ⟨Lc16, hQ16, l16, y16, z16⟩, st16⟩ := Jvm.LawKit.callS X15 hx (y := (⟨"com/example/nabu/nabu/relay/BackoffNextPinLaw", "expected", "(JJI)J"⟩ : MethodName)) hown (mvT hZ (hw _ (List.mem_of_getElem? (i := 31) rfl))) (mvT hZ (hw _ (List.mem_of_getElem? (i := 32) rfl))) (mvT hZ (hw _ (List.mem_of_getElem? (i := 33) rfl))) (mvT hZ (hw _ (List.mem_of_getElem? (i := 34) rfl))) (by decide) (backOf (W := 2) (rmE l Z a0 hw [] (own_m q1) (own_m q2) (0 : Int32) T10.heap n0 (Nat.le_trans (Nat.le_trans (Nat.le_trans (Nat.le_trans (Nat.le_trans (Nat.le_trans (Nat.le_trans (Nat.le_trans (Nat.le_trans (Nat.le_trans Z0 E1.1) K2.1) K3.1) K4.1) K5.1) K6.1) K7.1) K8.1) K9.1) K10.1) ) hZ (hw _ (List.mem_of_getElem? (i := 34) rfl)) (hw _ (List.mem_of_getElem? (i := 33) rfl)) (by decide) (by decide)) (g := (mkF m 158 #[.val (.long q1), .second, .val (.long q2), .second, .val (.long (own_m q1)), .second, .val (.long (own_m q2)), .second, .val (.ref b1), .val (.long (own_m q1)), .second, .val (.long (own_minL ((2 : Int64) * (own_m q1)) (own_m q2))), .second, .val (.long (own_minL ((2 : Int64) * (own_minL ((2 : Int64) * (own_m q1)) (own_m q2))) (own_m q2))), .second, .val (.long (own_minL ((2 : Int64) * (own_minL ((2 : Int64) * (own_minL ((2 : Int64) * (own_m q1)) (own_m q2))) (own_m q2))) (own_m q2))), .second, .val (.long (own_minL ((2 : Int64) * (own_minL ((2 : Int64) * (own_minL ((2 : Int64) * (own_minL ((2 : Int64) * (own_m q1)) (own_m q2))) (own_m q2))) (own_m q2))) (own_m q2))), .second, .val (.long (own_m q1)), .second, .val (.long (own_minL ((2 : Int64) * (own_m q1)) (own_m q2))), .second] [(.int (0 : Int32)), (.long (own_m q2)), (.long (own_m q1)), (.long (own_m q1))])) rfl (by rw [hml]; rfl) (argsL := [(.long (own_m q1)), (.long (own_m q2)), (.int (0 : Int32))]) (rest := [(.long (own_m q1))]) (lenOf pd_4 rfl) rfl (by show 2 * 0 + _ ≤ _; exact Nat.le_of_eq rfl) (hb hby at_158) (fun _ _ => ⟨rfl, e15, (by decide : 1 + 0 ≤ _), (by decide : 3 + 0 ≤ _)⟩)
  dsimp only [Pt.U, Pt.locs, Pt.cells, Pt.slots] at X16 l16 y16 z16 st16 hQ16
  subst l16 y16 z16
  obtain ⟨rfl, N16q, e16⟩ := hQ16
  have N16 := Fr.app N15 N16q
  obtain ⟨_, _, ⟨T17, L17, k17, n17⟩, -, X17, ⟨Lc17, hQ17, l17, y17, z17⟩, st17⟩ := Jvm.LawKit.callS X16 hx (y := (⟨"com/example/nabu/nabu/relay/BackoffNextPinLaw", "expected", "(JJI)J"⟩ : MethodName)) hown (mvT hZ (hw _ (List.mem_of_getElem? (i := 31) rfl))) (mvT hZ (hw _ (List.mem_of_getElem? (i := 32) rfl))) (mvT hZ (hw _ (List.mem_of_getElem? (i := 33) rfl))) (mvT hZ (hw _ (List.mem_of_getElem? (i := 34) rfl))) (by decide) (backOf (W := 2) (rmE l Z a0 hw [] (own_m q1) (own_m q2) (1 : Int32) T10.heap n0 (Nat.le_trans (Nat.le_trans (Nat.le_trans (Nat.le_trans (Nat.le_trans (Nat.le_trans (Nat.le_trans (Nat.le_trans (Nat.le_trans (Nat.le_trans Z0 E1.1) K2.1) K3.1) K4.1) K5.1) K6.1) K7.1) K8.1) K9.1) K10.1) ) hZ (hw _ (List.mem_of_getElem? (i := 34) rfl)) (hw _ (List.mem_of_getElem? (i := 33) rfl)) (by decide) (by decide)) (g := (mkF m 172 #[.val (.long q1), .second, .val (.long q2), .second, .val (.long (own_m q1)), .second, .val (.long (own_m q2)), .second, .val (.ref b1), .val (.long (own_m q1)), .second, .val (.long (own_minL ((2 : Int64) * (own_m q1)) (own_m q2))), .second, .val (.long (own_minL ((2 : Int64) * (own_minL ((2 : Int64) * (own_m q1)) (own_m q2))) (own_m q2))), .second, .val (.long (own_minL ((2 : Int64) * (own_minL ((2 : Int64) * (own_minL ((2 : Int64) * (own_m q1)) (own_m q2))) (own_m q2))) (own_m q2))), .second, .val (.long (own_minL ((2 : Int64) * (own_minL ((2 : Int64) * (own_minL ((2 : Int64) * (own_minL ((2 : Int64) * (own_m q1)) (own_m q2))) (own_m q2))) (own_m q2))) (own_m q2))), .second, .val (.long (own_m q1)), .second, .val (.long (own_minL ((2 : Int64) * (own_m q1)) (own_m q2))), .second] [(.int (1 : Int32)), (.long (own_m q2)), (.long (own_m q1)), (.long (own_minL ((2 : Int64) * (own_m q1)) (own_m q2)))])) rfl (by rw [hml]; rfl) (argsL := [(.long (own_m q1)), (.long (own_m q2)), (.int (1 : Int32))]) (rest := [(.long (own_minL ((2 : Int64) * (own_m q1)) (own_m q2)))]) (lenOf pd_4 rfl) rfl (by show 2 * 0 + _ ≤ _; exact Nat.le_of_eq rfl) (hb hby at_172) (fun _ _ => ⟨rfl, e16, (by decide : 1 + 0 ≤ _), (by decide : 3 + 0 ≤ _)⟩)
  dsimp only [Pt.U, Pt.locs, Pt.cells, Pt.slots] at X17 l17 y17 z17 st17 hQ17
  subst l17 y17 z17
  obtain ⟨rfl, N17q, e17⟩ := hQ17
  have N17 := Fr.app N16 N17q
  obtain ⟨fs, hr, hrun, hended, hW, hsame⟩ := X17.leave (v := some (.int (1 : Int32))) (fun h => by rw [Bd.returns] at h; cases h)
  refine ⟨_, _, pre0 _ ?_, hrun, hended, _, _, rfl, ?_, ⟨_, rfl⟩, hW, hsame.mono (by decide) (by decide)⟩
  · show Steps p.tables e below (s₁.setTop (mkF m 0 #[.val (.long q1), .second, .val (.long q2), .second, .unset, .unset, .unset, .unset, .unset, .unset, .unset, .unset, .unset, .unset, .unset, .unset, .unset, .unset, .unset, .unset, .unset, .unset, .unset] [])) _
    refine XS.lloadN X0.here hx rfl (hb hby at_0) rfl ?_
    show Steps p.tables e below (s₁.setTop (mkF m 1 #[.val (.long q1), .second, .val (.long q2), .second, .unset, .unset, .unset, .unset, .unset, .unset, .unset, .unset, .unset, .unset, .unset, .unset, .unset, .unset, .unset, .unset, .unset, .unset, .unset] [(.long q1)])) _
    refine X0.ldc2J hx hown (mvT hZ (hw _ (List.mem_of_getElem? (i := 0) rfl))) (g := (mkF m 1 #[.val (.long q1), .second, .val (.long q2), .second, .unset, .unset, .unset, .unset, .unset, .unset, .unset, .unset, .unset, .unset, .unset, .unset, .unset, .unset, .unset, .unset, .unset, .unset, .unset] [(.long q1)])) rfl (hb hby at_1) ?_
    show Steps p.tables e below (s₁.setTop (mkF m 4 #[.val (.long q1), .second, .val (.long q2), .second, .unset, .unset, .unset, .unset, .unset, .unset, .unset, .unset, .unset, .unset, .unset, .unset, .unset, .unset, .unset, .unset, .unset, .unset, .unset] [(.long (4611686018427387903 : Int64)), (.long q1)])) _
    refine XS.land X0.here hx rfl (hb hby at_4) rfl ?_
    show Steps p.tables e below (s₁.setTop (mkF m 5 #[.val (.long q1), .second, .val (.long q2), .second, .unset, .unset, .unset, .unset, .unset, .unset, .unset, .unset, .unset, .unset, .unset, .unset, .unset, .unset, .unset, .unset, .unset, .unset, .unset] [(.long (own_m q1))])) _
    refine XS.lstore X0.here hx rfl (hb hby at_5) rfl (l' := #[.val (.long q1), .second, .val (.long q2), .second, .val (.long (own_m q1)), .second, .unset, .unset, .unset, .unset, .unset, .unset, .unset, .unset, .unset, .unset, .unset, .unset, .unset, .unset, .unset, .unset, .unset]) rfl ?_
    show Steps p.tables e below (s₁.setTop (mkF m 7 #[.val (.long q1), .second, .val (.long q2), .second, .val (.long (own_m q1)), .second, .unset, .unset, .unset, .unset, .unset, .unset, .unset, .unset, .unset, .unset, .unset, .unset, .unset, .unset, .unset, .unset, .unset] [])) _
    refine XS.lloadN X0.here hx rfl (hb hby at_7) rfl ?_
    show Steps p.tables e below (s₁.setTop (mkF m 8 #[.val (.long q1), .second, .val (.long q2), .second, .val (.long (own_m q1)), .second, .unset, .unset, .unset, .unset, .unset, .unset, .unset, .unset, .unset, .unset, .unset, .unset, .unset, .unset, .unset, .unset, .unset] [(.long q2)])) _
    refine X0.ldc2J hx hown (mvT hZ (hw _ (List.mem_of_getElem? (i := 0) rfl))) (g := (mkF m 8 #[.val (.long q1), .second, .val (.long q2), .second, .val (.long (own_m q1)), .second, .unset, .unset, .unset, .unset, .unset, .unset, .unset, .unset, .unset, .unset, .unset, .unset, .unset, .unset, .unset, .unset, .unset] [(.long q2)])) rfl (hb hby at_8) ?_
    show Steps p.tables e below (s₁.setTop (mkF m 11 #[.val (.long q1), .second, .val (.long q2), .second, .val (.long (own_m q1)), .second, .unset, .unset, .unset, .unset, .unset, .unset, .unset, .unset, .unset, .unset, .unset, .unset, .unset, .unset, .unset, .unset, .unset] [(.long (4611686018427387903 : Int64)), (.long q2)])) _
    refine XS.land X0.here hx rfl (hb hby at_11) rfl ?_
    show Steps p.tables e below (s₁.setTop (mkF m 12 #[.val (.long q1), .second, .val (.long q2), .second, .val (.long (own_m q1)), .second, .unset, .unset, .unset, .unset, .unset, .unset, .unset, .unset, .unset, .unset, .unset, .unset, .unset, .unset, .unset, .unset, .unset] [(.long (own_m q2))])) _
    refine XS.lstore X0.here hx rfl (hb hby at_12) rfl (l' := #[.val (.long q1), .second, .val (.long q2), .second, .val (.long (own_m q1)), .second, .val (.long (own_m q2)), .second, .unset, .unset, .unset, .unset, .unset, .unset, .unset, .unset, .unset, .unset, .unset, .unset, .unset, .unset, .unset]) rfl ?_
    show Steps p.tables e below (s₁.setTop (mkF m 14 #[.val (.long q1), .second, .val (.long q2), .second, .val (.long (own_m q1)), .second, .val (.long (own_m q2)), .second, .unset, .unset, .unset, .unset, .unset, .unset, .unset, .unset, .unset, .unset, .unset, .unset, .unset, .unset, .unset] [])) _
    refine st1 _ ?_
    show Steps p.tables e below (T1.setTop (mkF m 17 #[.val (.long q1), .second, .val (.long q2), .second, .val (.long (own_m q1)), .second, .val (.long (own_m q2)), .second, .unset, .unset, .unset, .unset, .unset, .unset, .unset, .unset, .unset, .unset, .unset, .unset, .unset, .unset, .unset] [(.ref b1)])) _
    refine XS.dup X1.here hx rfl (hb hby at_17) rfl rfl ?_
    show Steps p.tables e below (T1.setTop (mkF m 18 #[.val (.long q1), .second, .val (.long q2), .second, .val (.long (own_m q1)), .second, .val (.long (own_m q2)), .second, .unset, .unset, .unset, .unset, .unset, .unset, .unset, .unset, .unset, .unset, .unset, .unset, .unset, .unset, .unset] [(.ref b1), (.ref b1)])) _
    refine XS.lload X1.here hx rfl (hb hby at_18) rfl ?_
    show Steps p.tables e below (T1.setTop (mkF m 20 #[.val (.long q1), .second, .val (.long q2), .second, .val (.long (own_m q1)), .second, .val (.long (own_m q2)), .second, .unset, .unset, .unset, .unset, .unset, .unset, .unset, .unset, .unset, .unset, .unset, .unset, .unset, .unset, .unset] [(.long (own_m q1)), (.ref b1), (.ref b1)])) _
    refine XS.lload X1.here hx rfl (hb hby at_20) rfl ?_
    show Steps p.tables e below (T1.setTop (mkF m 22 #[.val (.long q1), .second, .val (.long q2), .second, .val (.long (own_m q1)), .second, .val (.long (own_m q2)), .second, .unset, .unset, .unset, .unset, .unset, .unset, .unset, .unset, .unset, .unset, .unset, .unset, .unset, .unset, .unset] [(.long (own_m q2)), (.long (own_m q1)), (.ref b1), (.ref b1)])) _
    refine st2.trans ?_
    show Steps p.tables e below (T2.setTop (mkF m 25 #[.val (.long q1), .second, .val (.long q2), .second, .val (.long (own_m q1)), .second, .val (.long (own_m q2)), .second, .unset, .unset, .unset, .unset, .unset, .unset, .unset, .unset, .unset, .unset, .unset, .unset, .unset, .unset, .unset] [(.ref b1)])) _
    refine XS.astore X2.here hx rfl (hb hby at_25) rfl rfl (l' := #[.val (.long q1), .second, .val (.long q2), .second, .val (.long (own_m q1)), .second, .val (.long (own_m q2)), .second, .val (.ref b1), .unset, .unset, .unset, .unset, .unset, .unset, .unset, .unset, .unset, .unset, .unset, .unset, .unset, .unset]) rfl ?_
    show Steps p.tables e below (T2.setTop (mkF m 27 #[.val (.long q1), .second, .val (.long q2), .second, .val (.long (own_m q1)), .second, .val (.long (own_m q2)), .second, .val (.ref b1), .unset, .unset, .unset, .unset, .unset, .unset, .unset, .unset, .unset, .unset, .unset, .unset, .unset, .unset] [])) _
    refine XS.aload X2.here hx rfl (hb hby at_27) rfl rfl ?_
    show Steps p.tables e below (T2.setTop (mkF m 29 #[.val (.long q1), .second, .val (.long q2), .second, .val (.long (own_m q1)), .second, .val (.long (own_m q2)), .second, .val (.ref b1), .unset, .unset, .unset, .unset, .unset, .unset, .unset, .unset, .unset, .unset, .unset, .unset, .unset, .unset] [(.ref b1)])) _
    refine st3.trans ?_
    show Steps p.tables e below (T3.setTop (mkF m 32 #[.val (.long q1), .second, .val (.long q2), .second, .val (.long (own_m q1)), .second, .val (.long (own_m q2)), .second, .val (.ref b1), .unset, .unset, .unset, .unset, .unset, .unset, .unset, .unset, .unset, .unset, .unset, .unset, .unset, .unset] [(.long (own_m q1))])) _
    refine XS.lstore X3.here hx rfl (hb hby at_32) rfl (l' := #[.val (.long q1), .second, .val (.long q2), .second, .val (.long (own_m q1)), .second, .val (.long (own_m q2)), .second, .val (.ref b1), .val (.long (own_m q1)), .second, .unset, .unset, .unset, .unset, .unset, .unset, .unset, .unset, .unset, .unset, .unset, .unset]) rfl ?_
    show Steps p.tables e below (T3.setTop (mkF m 34 #[.val (.long q1), .second, .val (.long q2), .second, .val (.long (own_m q1)), .second, .val (.long (own_m q2)), .second, .val (.ref b1), .val (.long (own_m q1)), .second, .unset, .unset, .unset, .unset, .unset, .unset, .unset, .unset, .unset, .unset, .unset, .unset] [])) _
    refine XS.aload X3.here hx rfl (hb hby at_34) rfl rfl ?_
    show Steps p.tables e below (T3.setTop (mkF m 36 #[.val (.long q1), .second, .val (.long q2), .second, .val (.long (own_m q1)), .second, .val (.long (own_m q2)), .second, .val (.ref b1), .val (.long (own_m q1)), .second, .unset, .unset, .unset, .unset, .unset, .unset, .unset, .unset, .unset, .unset, .unset, .unset] [(.ref b1)])) _
    refine st4.trans ?_
    show Steps p.tables e below (T4.setTop (mkF m 39 #[.val (.long q1), .second, .val (.long q2), .second, .val (.long (own_m q1)), .second, .val (.long (own_m q2)), .second, .val (.ref b1), .val (.long (own_m q1)), .second, .unset, .unset, .unset, .unset, .unset, .unset, .unset, .unset, .unset, .unset, .unset, .unset] [(.long (own_minL ((2 : Int64) * (own_m q1)) (own_m q2)))])) _
    refine XS.lstore X4.here hx rfl (hb hby at_39) rfl (l' := #[.val (.long q1), .second, .val (.long q2), .second, .val (.long (own_m q1)), .second, .val (.long (own_m q2)), .second, .val (.ref b1), .val (.long (own_m q1)), .second, .val (.long (own_minL ((2 : Int64) * (own_m q1)) (own_m q2))), .second, .unset, .unset, .unset, .unset, .unset, .unset, .unset, .unset, .unset, .unset]) rfl ?_
    show Steps p.tables e below (T4.setTop (mkF m 41 #[.val (.long q1), .second, .val (.long q2), .second, .val (.long (own_m q1)), .second, .val (.long (own_m q2)), .second, .val (.ref b1), .val (.long (own_m q1)), .second, .val (.long (own_minL ((2 : Int64) * (own_m q1)) (own_m q2))), .second, .unset, .unset, .unset, .unset, .unset, .unset, .unset, .unset, .unset, .unset] [])) _
    refine XS.aload X4.here hx rfl (hb hby at_41) rfl rfl ?_
    show Steps p.tables e below (T4.setTop (mkF m 43 #[.val (.long q1), .second, .val (.long q2), .second, .val (.long (own_m q1)), .second, .val (.long (own_m q2)), .second, .val (.ref b1), .val (.long (own_m q1)), .second, .val (.long (own_minL ((2 : Int64) * (own_m q1)) (own_m q2))), .second, .unset, .unset, .unset, .unset, .unset, .unset, .unset, .unset, .unset, .unset] [(.ref b1)])) _
    refine st5.trans ?_
    show Steps p.tables e below (T5.setTop (mkF m 46 #[.val (.long q1), .second, .val (.long q2), .second, .val (.long (own_m q1)), .second, .val (.long (own_m q2)), .second, .val (.ref b1), .val (.long (own_m q1)), .second, .val (.long (own_minL ((2 : Int64) * (own_m q1)) (own_m q2))), .second, .unset, .unset, .unset, .unset, .unset, .unset, .unset, .unset, .unset, .unset] [(.long (own_minL ((2 : Int64) * (own_minL ((2 : Int64) * (own_m q1)) (own_m q2))) (own_m q2)))])) _
    refine XS.lstore X5.here hx rfl (hb hby at_46) rfl (l' := #[.val (.long q1), .second, .val (.long q2), .second, .val (.long (own_m q1)), .second, .val (.long (own_m q2)), .second, .val (.ref b1), .val (.long (own_m q1)), .second, .val (.long (own_minL ((2 : Int64) * (own_m q1)) (own_m q2))), .second, .val (.long (own_minL ((2 : Int64) * (own_minL ((2 : Int64) * (own_m q1)) (own_m q2))) (own_m q2))), .second, .unset, .unset, .unset, .unset, .unset, .unset, .unset, .unset]) rfl ?_
    show Steps p.tables e below (T5.setTop (mkF m 48 #[.val (.long q1), .second, .val (.long q2), .second, .val (.long (own_m q1)), .second, .val (.long (own_m q2)), .second, .val (.ref b1), .val (.long (own_m q1)), .second, .val (.long (own_minL ((2 : Int64) * (own_m q1)) (own_m q2))), .second, .val (.long (own_minL ((2 : Int64) * (own_minL ((2 : Int64) * (own_m q1)) (own_m q2))) (own_m q2))), .second, .unset, .unset, .unset, .unset, .unset, .unset, .unset, .unset] [])) _
    refine XS.aload X5.here hx rfl (hb hby at_48) rfl rfl ?_
    show Steps p.tables e below (T5.setTop (mkF m 50 #[.val (.long q1), .second, .val (.long q2), .second, .val (.long (own_m q1)), .second, .val (.long (own_m q2)), .second, .val (.ref b1), .val (.long (own_m q1)), .second, .val (.long (own_minL ((2 : Int64) * (own_m q1)) (own_m q2))), .second, .val (.long (own_minL ((2 : Int64) * (own_minL ((2 : Int64) * (own_m q1)) (own_m q2))) (own_m q2))), .second, .unset, .unset, .unset, .unset, .unset, .unset, .unset, .unset] [(.ref b1)])) _
    refine st6.trans ?_
    show Steps p.tables e below (T6.setTop (mkF m 53 #[.val (.long q1), .second, .val (.long q2), .second, .val (.long (own_m q1)), .second, .val (.long (own_m q2)), .second, .val (.ref b1), .val (.long (own_m q1)), .second, .val (.long (own_minL ((2 : Int64) * (own_m q1)) (own_m q2))), .second, .val (.long (own_minL ((2 : Int64) * (own_minL ((2 : Int64) * (own_m q1)) (own_m q2))) (own_m q2))), .second, .unset, .unset, .unset, .unset, .unset, .unset, .unset, .unset] [(.long (own_minL ((2 : Int64) * (own_minL ((2 : Int64) * (own_minL ((2 : Int64) * (own_m q1)) (own_m q2))) (own_m q2))) (own_m q2)))])) _
    refine XS.lstore X6.here hx rfl (hb hby at_53) rfl (l' := #[.val (.long q1), .second, .val (.long q2), .second, .val (.long (own_m q1)), .second, .val (.long (own_m q2)), .second, .val (.ref b1), .val (.long (own_m q1)), .second, .val (.long (own_minL ((2 : Int64) * (own_m q1)) (own_m q2))), .second, .val (.long (own_minL ((2 : Int64) * (own_minL ((2 : Int64) * (own_m q1)) (own_m q2))) (own_m q2))), .second, .val (.long (own_minL ((2 : Int64) * (own_minL ((2 : Int64) * (own_minL ((2 : Int64) * (own_m q1)) (own_m q2))) (own_m q2))) (own_m q2))), .second, .unset, .unset, .unset, .unset, .unset, .unset]) rfl ?_
    show Steps p.tables e below (T6.setTop (mkF m 55 #[.val (.long q1), .second, .val (.long q2), .second, .val (.long (own_m q1)), .second, .val (.long (own_m q2)), .second, .val (.ref b1), .val (.long (own_m q1)), .second, .val (.long (own_minL ((2 : Int64) * (own_m q1)) (own_m q2))), .second, .val (.long (own_minL ((2 : Int64) * (own_minL ((2 : Int64) * (own_m q1)) (own_m q2))) (own_m q2))), .second, .val (.long (own_minL ((2 : Int64) * (own_minL ((2 : Int64) * (own_minL ((2 : Int64) * (own_m q1)) (own_m q2))) (own_m q2))) (own_m q2))), .second, .unset, .unset, .unset, .unset, .unset, .unset] [])) _
    refine XS.aload X6.here hx rfl (hb hby at_55) rfl rfl ?_
    show Steps p.tables e below (T6.setTop (mkF m 57 #[.val (.long q1), .second, .val (.long q2), .second, .val (.long (own_m q1)), .second, .val (.long (own_m q2)), .second, .val (.ref b1), .val (.long (own_m q1)), .second, .val (.long (own_minL ((2 : Int64) * (own_m q1)) (own_m q2))), .second, .val (.long (own_minL ((2 : Int64) * (own_minL ((2 : Int64) * (own_m q1)) (own_m q2))) (own_m q2))), .second, .val (.long (own_minL ((2 : Int64) * (own_minL ((2 : Int64) * (own_minL ((2 : Int64) * (own_m q1)) (own_m q2))) (own_m q2))) (own_m q2))), .second, .unset, .unset, .unset, .unset, .unset, .unset] [(.ref b1)])) _
    refine st7.trans ?_
    show Steps p.tables e below (T7.setTop (mkF m 60 #[.val (.long q1), .second, .val (.long q2), .second, .val (.long (own_m q1)), .second, .val (.long (own_m q2)), .second, .val (.ref b1), .val (.long (own_m q1)), .second, .val (.long (own_minL ((2 : Int64) * (own_m q1)) (own_m q2))), .second, .val (.long (own_minL ((2 : Int64) * (own_minL ((2 : Int64) * (own_m q1)) (own_m q2))) (own_m q2))), .second, .val (.long (own_minL ((2 : Int64) * (own_minL ((2 : Int64) * (own_minL ((2 : Int64) * (own_m q1)) (own_m q2))) (own_m q2))) (own_m q2))), .second, .unset, .unset, .unset, .unset, .unset, .unset] [(.long (own_minL ((2 : Int64) * (own_minL ((2 : Int64) * (own_minL ((2 : Int64) * (own_minL ((2 : Int64) * (own_m q1)) (own_m q2))) (own_m q2))) (own_m q2))) (own_m q2)))])) _
    refine XS.lstore X7.here hx rfl (hb hby at_60) rfl (l' := #[.val (.long q1), .second, .val (.long q2), .second, .val (.long (own_m q1)), .second, .val (.long (own_m q2)), .second, .val (.ref b1), .val (.long (own_m q1)), .second, .val (.long (own_minL ((2 : Int64) * (own_m q1)) (own_m q2))), .second, .val (.long (own_minL ((2 : Int64) * (own_minL ((2 : Int64) * (own_m q1)) (own_m q2))) (own_m q2))), .second, .val (.long (own_minL ((2 : Int64) * (own_minL ((2 : Int64) * (own_minL ((2 : Int64) * (own_m q1)) (own_m q2))) (own_m q2))) (own_m q2))), .second, .val (.long (own_minL ((2 : Int64) * (own_minL ((2 : Int64) * (own_minL ((2 : Int64) * (own_minL ((2 : Int64) * (own_m q1)) (own_m q2))) (own_m q2))) (own_m q2))) (own_m q2))), .second, .unset, .unset, .unset, .unset]) rfl ?_
    show Steps p.tables e below (T7.setTop (mkF m 62 #[.val (.long q1), .second, .val (.long q2), .second, .val (.long (own_m q1)), .second, .val (.long (own_m q2)), .second, .val (.ref b1), .val (.long (own_m q1)), .second, .val (.long (own_minL ((2 : Int64) * (own_m q1)) (own_m q2))), .second, .val (.long (own_minL ((2 : Int64) * (own_minL ((2 : Int64) * (own_m q1)) (own_m q2))) (own_m q2))), .second, .val (.long (own_minL ((2 : Int64) * (own_minL ((2 : Int64) * (own_minL ((2 : Int64) * (own_m q1)) (own_m q2))) (own_m q2))) (own_m q2))), .second, .val (.long (own_minL ((2 : Int64) * (own_minL ((2 : Int64) * (own_minL ((2 : Int64) * (own_minL ((2 : Int64) * (own_m q1)) (own_m q2))) (own_m q2))) (own_m q2))) (own_m q2))), .second, .unset, .unset, .unset, .unset] [])) _
    refine XS.aload X7.here hx rfl (hb hby at_62) rfl rfl ?_
    show Steps p.tables e below (T7.setTop (mkF m 64 #[.val (.long q1), .second, .val (.long q2), .second, .val (.long (own_m q1)), .second, .val (.long (own_m q2)), .second, .val (.ref b1), .val (.long (own_m q1)), .second, .val (.long (own_minL ((2 : Int64) * (own_m q1)) (own_m q2))), .second, .val (.long (own_minL ((2 : Int64) * (own_minL ((2 : Int64) * (own_m q1)) (own_m q2))) (own_m q2))), .second, .val (.long (own_minL ((2 : Int64) * (own_minL ((2 : Int64) * (own_minL ((2 : Int64) * (own_m q1)) (own_m q2))) (own_m q2))) (own_m q2))), .second, .val (.long (own_minL ((2 : Int64) * (own_minL ((2 : Int64) * (own_minL ((2 : Int64) * (own_minL ((2 : Int64) * (own_m q1)) (own_m q2))) (own_m q2))) (own_m q2))) (own_m q2))), .second, .unset, .unset, .unset, .unset] [(.ref b1)])) _
    refine st8.trans ?_
    show Steps p.tables e below (T8.setTop (mkF m 67 #[.val (.long q1), .second, .val (.long q2), .second, .val (.long (own_m q1)), .second, .val (.long (own_m q2)), .second, .val (.ref b1), .val (.long (own_m q1)), .second, .val (.long (own_minL ((2 : Int64) * (own_m q1)) (own_m q2))), .second, .val (.long (own_minL ((2 : Int64) * (own_minL ((2 : Int64) * (own_m q1)) (own_m q2))) (own_m q2))), .second, .val (.long (own_minL ((2 : Int64) * (own_minL ((2 : Int64) * (own_minL ((2 : Int64) * (own_m q1)) (own_m q2))) (own_m q2))) (own_m q2))), .second, .val (.long (own_minL ((2 : Int64) * (own_minL ((2 : Int64) * (own_minL ((2 : Int64) * (own_minL ((2 : Int64) * (own_m q1)) (own_m q2))) (own_m q2))) (own_m q2))) (own_m q2))), .second, .unset, .unset, .unset, .unset] [])) _
    refine XS.aload X8.here hx rfl (hb hby at_67) rfl rfl ?_
    show Steps p.tables e below (T8.setTop (mkF m 69 #[.val (.long q1), .second, .val (.long q2), .second, .val (.long (own_m q1)), .second, .val (.long (own_m q2)), .second, .val (.ref b1), .val (.long (own_m q1)), .second, .val (.long (own_minL ((2 : Int64) * (own_m q1)) (own_m q2))), .second, .val (.long (own_minL ((2 : Int64) * (own_minL ((2 : Int64) * (own_m q1)) (own_m q2))) (own_m q2))), .second, .val (.long (own_minL ((2 : Int64) * (own_minL ((2 : Int64) * (own_minL ((2 : Int64) * (own_m q1)) (own_m q2))) (own_m q2))) (own_m q2))), .second, .val (.long (own_minL ((2 : Int64) * (own_minL ((2 : Int64) * (own_minL ((2 : Int64) * (own_minL ((2 : Int64) * (own_m q1)) (own_m q2))) (own_m q2))) (own_m q2))) (own_m q2))), .second, .unset, .unset, .unset, .unset] [(.ref b1)])) _
    refine st9.trans ?_
    show Steps p.tables e below (T9.setTop (mkF m 72 #[.val (.long q1), .second, .val (.long q2), .second, .val (.long (own_m q1)), .second, .val (.long (own_m q2)), .second, .val (.ref b1), .val (.long (own_m q1)), .second, .val (.long (own_minL ((2 : Int64) * (own_m q1)) (own_m q2))), .second, .val (.long (own_minL ((2 : Int64) * (own_minL ((2 : Int64) * (own_m q1)) (own_m q2))) (own_m q2))), .second, .val (.long (own_minL ((2 : Int64) * (own_minL ((2 : Int64) * (own_minL ((2 : Int64) * (own_m q1)) (own_m q2))) (own_m q2))) (own_m q2))), .second, .val (.long (own_minL ((2 : Int64) * (own_minL ((2 : Int64) * (own_minL ((2 : Int64) * (own_minL ((2 : Int64) * (own_m q1)) (own_m q2))) (own_m q2))) (own_m q2))) (own_m q2))), .second, .unset, .unset, .unset, .unset] [(.long (own_m q1))])) _
    refine XS.lstore X9.here hx rfl (hb hby at_72) rfl (l' := #[.val (.long q1), .second, .val (.long q2), .second, .val (.long (own_m q1)), .second, .val (.long (own_m q2)), .second, .val (.ref b1), .val (.long (own_m q1)), .second, .val (.long (own_minL ((2 : Int64) * (own_m q1)) (own_m q2))), .second, .val (.long (own_minL ((2 : Int64) * (own_minL ((2 : Int64) * (own_m q1)) (own_m q2))) (own_m q2))), .second, .val (.long (own_minL ((2 : Int64) * (own_minL ((2 : Int64) * (own_minL ((2 : Int64) * (own_m q1)) (own_m q2))) (own_m q2))) (own_m q2))), .second, .val (.long (own_minL ((2 : Int64) * (own_minL ((2 : Int64) * (own_minL ((2 : Int64) * (own_minL ((2 : Int64) * (own_m q1)) (own_m q2))) (own_m q2))) (own_m q2))) (own_m q2))), .second, .val (.long (own_m q1)), .second, .unset, .unset]) rfl ?_
    show Steps p.tables e below (T9.setTop (mkF m 74 #[.val (.long q1), .second, .val (.long q2), .second, .val (.long (own_m q1)), .second, .val (.long (own_m q2)), .second, .val (.ref b1), .val (.long (own_m q1)), .second, .val (.long (own_minL ((2 : Int64) * (own_m q1)) (own_m q2))), .second, .val (.long (own_minL ((2 : Int64) * (own_minL ((2 : Int64) * (own_m q1)) (own_m q2))) (own_m q2))), .second, .val (.long (own_minL ((2 : Int64) * (own_minL ((2 : Int64) * (own_minL ((2 : Int64) * (own_m q1)) (own_m q2))) (own_m q2))) (own_m q2))), .second, .val (.long (own_minL ((2 : Int64) * (own_minL ((2 : Int64) * (own_minL ((2 : Int64) * (own_minL ((2 : Int64) * (own_m q1)) (own_m q2))) (own_m q2))) (own_m q2))) (own_m q2))), .second, .val (.long (own_m q1)), .second, .unset, .unset] [])) _
    refine XS.aload X9.here hx rfl (hb hby at_74) rfl rfl ?_
    show Steps p.tables e below (T9.setTop (mkF m 76 #[.val (.long q1), .second, .val (.long q2), .second, .val (.long (own_m q1)), .second, .val (.long (own_m q2)), .second, .val (.ref b1), .val (.long (own_m q1)), .second, .val (.long (own_minL ((2 : Int64) * (own_m q1)) (own_m q2))), .second, .val (.long (own_minL ((2 : Int64) * (own_minL ((2 : Int64) * (own_m q1)) (own_m q2))) (own_m q2))), .second, .val (.long (own_minL ((2 : Int64) * (own_minL ((2 : Int64) * (own_minL ((2 : Int64) * (own_m q1)) (own_m q2))) (own_m q2))) (own_m q2))), .second, .val (.long (own_minL ((2 : Int64) * (own_minL ((2 : Int64) * (own_minL ((2 : Int64) * (own_minL ((2 : Int64) * (own_m q1)) (own_m q2))) (own_m q2))) (own_m q2))) (own_m q2))), .second, .val (.long (own_m q1)), .second, .unset, .unset] [(.ref b1)])) _
    refine st10.trans ?_
    show Steps p.tables e below (T10.setTop (mkF m 79 #[.val (.long q1), .second, .val (.long q2), .second, .val (.long (own_m q1)), .second, .val (.long (own_m q2)), .second, .val (.ref b1), .val (.long (own_m q1)), .second, .val (.long (own_minL ((2 : Int64) * (own_m q1)) (own_m q2))), .second, .val (.long (own_minL ((2 : Int64) * (own_minL ((2 : Int64) * (own_m q1)) (own_m q2))) (own_m q2))), .second, .val (.long (own_minL ((2 : Int64) * (own_minL ((2 : Int64) * (own_minL ((2 : Int64) * (own_m q1)) (own_m q2))) (own_m q2))) (own_m q2))), .second, .val (.long (own_minL ((2 : Int64) * (own_minL ((2 : Int64) * (own_minL ((2 : Int64) * (own_minL ((2 : Int64) * (own_m q1)) (own_m q2))) (own_m q2))) (own_m q2))) (own_m q2))), .second, .val (.long (own_m q1)), .second, .unset, .unset] [(.long (own_minL ((2 : Int64) * (own_m q1)) (own_m q2)))])) _
    refine XS.lstore X10.here hx rfl (hb hby at_79) rfl (l' := #[.val (.long q1), .second, .val (.long q2), .second, .val (.long (own_m q1)), .second, .val (.long (own_m q2)), .second, .val (.ref b1), .val (.long (own_m q1)), .second, .val (.long (own_minL ((2 : Int64) * (own_m q1)) (own_m q2))), .second, .val (.long (own_minL ((2 : Int64) * (own_minL ((2 : Int64) * (own_m q1)) (own_m q2))) (own_m q2))), .second, .val (.long (own_minL ((2 : Int64) * (own_minL ((2 : Int64) * (own_minL ((2 : Int64) * (own_m q1)) (own_m q2))) (own_m q2))) (own_m q2))), .second, .val (.long (own_minL ((2 : Int64) * (own_minL ((2 : Int64) * (own_minL ((2 : Int64) * (own_minL ((2 : Int64) * (own_m q1)) (own_m q2))) (own_m q2))) (own_m q2))) (own_m q2))), .second, .val (.long (own_m q1)), .second, .val (.long (own_minL ((2 : Int64) * (own_m q1)) (own_m q2))), .second]) rfl ?_
    show Steps p.tables e below (T10.setTop (mkF m 81 #[.val (.long q1), .second, .val (.long q2), .second, .val (.long (own_m q1)), .second, .val (.long (own_m q2)), .second, .val (.ref b1), .val (.long (own_m q1)), .second, .val (.long (own_minL ((2 : Int64) * (own_m q1)) (own_m q2))), .second, .val (.long (own_minL ((2 : Int64) * (own_minL ((2 : Int64) * (own_m q1)) (own_m q2))) (own_m q2))), .second, .val (.long (own_minL ((2 : Int64) * (own_minL ((2 : Int64) * (own_minL ((2 : Int64) * (own_m q1)) (own_m q2))) (own_m q2))) (own_m q2))), .second, .val (.long (own_minL ((2 : Int64) * (own_minL ((2 : Int64) * (own_minL ((2 : Int64) * (own_minL ((2 : Int64) * (own_m q1)) (own_m q2))) (own_m q2))) (own_m q2))) (own_m q2))), .second, .val (.long (own_m q1)), .second, .val (.long (own_minL ((2 : Int64) * (own_m q1)) (own_m q2))), .second] [])) _
    refine XS.lload X10.here hx rfl (hb hby at_81) rfl ?_
    show Steps p.tables e below (T10.setTop (mkF m 83 #[.val (.long q1), .second, .val (.long q2), .second, .val (.long (own_m q1)), .second, .val (.long (own_m q2)), .second, .val (.ref b1), .val (.long (own_m q1)), .second, .val (.long (own_minL ((2 : Int64) * (own_m q1)) (own_m q2))), .second, .val (.long (own_minL ((2 : Int64) * (own_minL ((2 : Int64) * (own_m q1)) (own_m q2))) (own_m q2))), .second, .val (.long (own_minL ((2 : Int64) * (own_minL ((2 : Int64) * (own_minL ((2 : Int64) * (own_m q1)) (own_m q2))) (own_m q2))) (own_m q2))), .second, .val (.long (own_minL ((2 : Int64) * (own_minL ((2 : Int64) * (own_minL ((2 : Int64) * (own_minL ((2 : Int64) * (own_m q1)) (own_m q2))) (own_m q2))) (own_m q2))) (own_m q2))), .second, .val (.long (own_m q1)), .second, .val (.long (own_minL ((2 : Int64) * (own_m q1)) (own_m q2))), .second] [(.long (own_m q1))])) _
    refine XS.lload X10.here hx rfl (hb hby at_83) rfl ?_
    show Steps p.tables e below (T10.setTop (mkF m 85 #[.val (.long q1), .second, .val (.long q2), .second, .val (.long (own_m q1)), .second, .val (.long (own_m q2)), .second, .val (.ref b1), .val (.long (own_m q1)), .second, .val (.long (own_minL ((2 : Int64) * (own_m q1)) (own_m q2))), .second, .val (.long (own_minL ((2 : Int64) * (own_minL ((2 : Int64) * (own_m q1)) (own_m q2))) (own_m q2))), .second, .val (.long (own_minL ((2 : Int64) * (own_minL ((2 : Int64) * (own_minL ((2 : Int64) * (own_m q1)) (own_m q2))) (own_m q2))) (own_m q2))), .second, .val (.long (own_minL ((2 : Int64) * (own_minL ((2 : Int64) * (own_minL ((2 : Int64) * (own_minL ((2 : Int64) * (own_m q1)) (own_m q2))) (own_m q2))) (own_m q2))) (own_m q2))), .second, .val (.long (own_m q1)), .second, .val (.long (own_minL ((2 : Int64) * (own_m q1)) (own_m q2))), .second] [(.long (own_m q1)), (.long (own_m q1))])) _
    refine XS.lload X10.here hx rfl (hb hby at_85) rfl ?_
    show Steps p.tables e below (T10.setTop (mkF m 87 #[.val (.long q1), .second, .val (.long q2), .second, .val (.long (own_m q1)), .second, .val (.long (own_m q2)), .second, .val (.ref b1), .val (.long (own_m q1)), .second, .val (.long (own_minL ((2 : Int64) * (own_m q1)) (own_m q2))), .second, .val (.long (own_minL ((2 : Int64) * (own_minL ((2 : Int64) * (own_m q1)) (own_m q2))) (own_m q2))), .second, .val (.long (own_minL ((2 : Int64) * (own_minL ((2 : Int64) * (own_minL ((2 : Int64) * (own_m q1)) (own_m q2))) (own_m q2))) (own_m q2))), .second, .val (.long (own_minL ((2 : Int64) * (own_minL ((2 : Int64) * (own_minL ((2 : Int64) * (own_minL ((2 : Int64) * (own_m q1)) (own_m q2))) (own_m q2))) (own_m q2))) (own_m q2))), .second, .val (.long (own_m q1)), .second, .val (.long (own_minL ((2 : Int64) * (own_m q1)) (own_m q2))), .second] [(.long (own_m q2)), (.long (own_m q1)), (.long (own_m q1))])) _
    refine XS.iconst X10.here hx rfl (hb hby at_87) ?_
    show Steps p.tables e below (T10.setTop (mkF m 88 #[.val (.long q1), .second, .val (.long q2), .second, .val (.long (own_m q1)), .second, .val (.long (own_m q2)), .second, .val (.ref b1), .val (.long (own_m q1)), .second, .val (.long (own_minL ((2 : Int64) * (own_m q1)) (own_m q2))), .second, .val (.long (own_minL ((2 : Int64) * (own_minL ((2 : Int64) * (own_m q1)) (own_m q2))) (own_m q2))), .second, .val (.long (own_minL ((2 : Int64) * (own_minL ((2 : Int64) * (own_minL ((2 : Int64) * (own_m q1)) (own_m q2))) (own_m q2))) (own_m q2))), .second, .val (.long (own_minL ((2 : Int64) * (own_minL ((2 : Int64) * (own_minL ((2 : Int64) * (own_minL ((2 : Int64) * (own_m q1)) (own_m q2))) (own_m q2))) (own_m q2))) (own_m q2))), .second, .val (.long (own_m q1)), .second, .val (.long (own_minL ((2 : Int64) * (own_m q1)) (own_m q2))), .second] [(.int (0 : Int32)), (.long (own_m q2)), (.long (own_m q1)), (.long (own_m q1))])) _
    refine st11 _ ?_
    show Steps p.tables e below (T11.setTop (mkF m 91 #[.val (.long q1), .second, .val (.long q2), .second, .val (.long (own_m q1)), .second, .val (.long (own_m q2)), .second, .val (.ref b1), .val (.long (own_m q1)), .second, .val (.long (own_minL ((2 : Int64) * (own_m q1)) (own_m q2))), .second, .val (.long (own_minL ((2 : Int64) * (own_minL ((2 : Int64) * (own_m q1)) (own_m q2))) (own_m q2))), .second, .val (.long (own_minL ((2 : Int64) * (own_minL ((2 : Int64) * (own_minL ((2 : Int64) * (own_m q1)) (own_m q2))) (own_m q2))) (own_m q2))), .second, .val (.long (own_minL ((2 : Int64) * (own_minL ((2 : Int64) * (own_minL ((2 : Int64) * (own_minL ((2 : Int64) * (own_m q1)) (own_m q2))) (own_m q2))) (own_m q2))) (own_m q2))), .second, .val (.long (own_m q1)), .second, .val (.long (own_minL ((2 : Int64) * (own_m q1)) (own_m q2))), .second] [(.long (own_exp (own_m q1) (own_m q2) (0 : Int32))), (.long (own_m q1))])) _
    refine XS.lcmp X11.here hx rfl (hb hby at_91) rfl ?_
    show Steps p.tables e below (T11.setTop (mkF m 92 #[.val (.long q1), .second, .val (.long q2), .second, .val (.long (own_m q1)), .second, .val (.long (own_m q2)), .second, .val (.ref b1), .val (.long (own_m q1)), .second, .val (.long (own_minL ((2 : Int64) * (own_m q1)) (own_m q2))), .second, .val (.long (own_minL ((2 : Int64) * (own_minL ((2 : Int64) * (own_m q1)) (own_m q2))) (own_m q2))), .second, .val (.long (own_minL ((2 : Int64) * (own_minL ((2 : Int64) * (own_minL ((2 : Int64) * (own_m q1)) (own_m q2))) (own_m q2))) (own_m q2))), .second, .val (.long (own_minL ((2 : Int64) * (own_minL ((2 : Int64) * (own_minL ((2 : Int64) * (own_minL ((2 : Int64) * (own_m q1)) (own_m q2))) (own_m q2))) (own_m q2))) (own_m q2))), .second, .val (.long (own_m q1)), .second, .val (.long (own_minL ((2 : Int64) * (own_m q1)) (own_m q2))), .second] [(.int (lcmpW (own_m q1) (own_exp (own_m q1) (own_m q2) (0 : Int32))))])) _
    refine XS.ifNo X11.here hx rfl (hb hby at_92) rfl ((if0 _ _).trans (teq ((lw_eq (own_m q1) (own_exp (own_m q1) (own_m q2) (0 : Int32))).mpr hc92)).2) ?_
    show Steps p.tables e below (T11.setTop (mkF m 95 #[.val (.long q1), .second, .val (.long q2), .second, .val (.long (own_m q1)), .second, .val (.long (own_m q2)), .second, .val (.ref b1), .val (.long (own_m q1)), .second, .val (.long (own_minL ((2 : Int64) * (own_m q1)) (own_m q2))), .second, .val (.long (own_minL ((2 : Int64) * (own_minL ((2 : Int64) * (own_m q1)) (own_m q2))) (own_m q2))), .second, .val (.long (own_minL ((2 : Int64) * (own_minL ((2 : Int64) * (own_minL ((2 : Int64) * (own_m q1)) (own_m q2))) (own_m q2))) (own_m q2))), .second, .val (.long (own_minL ((2 : Int64) * (own_minL ((2 : Int64) * (own_minL ((2 : Int64) * (own_minL ((2 : Int64) * (own_m q1)) (own_m q2))) (own_m q2))) (own_m q2))) (own_m q2))), .second, .val (.long (own_m q1)), .second, .val (.long (own_minL ((2 : Int64) * (own_m q1)) (own_m q2))), .second] [])) _
    refine XS.lload X11.here hx rfl (hb hby at_95) rfl ?_
    show Steps p.tables e below (T11.setTop (mkF m 97 #[.val (.long q1), .second, .val (.long q2), .second, .val (.long (own_m q1)), .second, .val (.long (own_m q2)), .second, .val (.ref b1), .val (.long (own_m q1)), .second, .val (.long (own_minL ((2 : Int64) * (own_m q1)) (own_m q2))), .second, .val (.long (own_minL ((2 : Int64) * (own_minL ((2 : Int64) * (own_m q1)) (own_m q2))) (own_m q2))), .second, .val (.long (own_minL ((2 : Int64) * (own_minL ((2 : Int64) * (own_minL ((2 : Int64) * (own_m q1)) (own_m q2))) (own_m q2))) (own_m q2))), .second, .val (.long (own_minL ((2 : Int64) * (own_minL ((2 : Int64) * (own_minL ((2 : Int64) * (own_minL ((2 : Int64) * (own_m q1)) (own_m q2))) (own_m q2))) (own_m q2))) (own_m q2))), .second, .val (.long (own_m q1)), .second, .val (.long (own_minL ((2 : Int64) * (own_m q1)) (own_m q2))), .second] [(.long (own_minL ((2 : Int64) * (own_m q1)) (own_m q2)))])) _
    refine XS.lload X11.here hx rfl (hb hby at_97) rfl ?_
    show Steps p.tables e below (T11.setTop (mkF m 99 #[.val (.long q1), .second, .val (.long q2), .second, .val (.long (own_m q1)), .second, .val (.long (own_m q2)), .second, .val (.ref b1), .val (.long (own_m q1)), .second, .val (.long (own_minL ((2 : Int64) * (own_m q1)) (own_m q2))), .second, .val (.long (own_minL ((2 : Int64) * (own_minL ((2 : Int64) * (own_m q1)) (own_m q2))) (own_m q2))), .second, .val (.long (own_minL ((2 : Int64) * (own_minL ((2 : Int64) * (own_minL ((2 : Int64) * (own_m q1)) (own_m q2))) (own_m q2))) (own_m q2))), .second, .val (.long (own_minL ((2 : Int64) * (own_minL ((2 : Int64) * (own_minL ((2 : Int64) * (own_minL ((2 : Int64) * (own_m q1)) (own_m q2))) (own_m q2))) (own_m q2))) (own_m q2))), .second, .val (.long (own_m q1)), .second, .val (.long (own_minL ((2 : Int64) * (own_m q1)) (own_m q2))), .second] [(.long (own_m q1)), (.long (own_minL ((2 : Int64) * (own_m q1)) (own_m q2)))])) _
    refine XS.lload X11.here hx rfl (hb hby at_99) rfl ?_
    show Steps p.tables e below (T11.setTop (mkF m 101 #[.val (.long q1), .second, .val (.long q2), .second, .val (.long (own_m q1)), .second, .val (.long (own_m q2)), .second, .val (.ref b1), .val (.long (own_m q1)), .second, .val (.long (own_minL ((2 : Int64) * (own_m q1)) (own_m q2))), .second, .val (.long (own_minL ((2 : Int64) * (own_minL ((2 : Int64) * (own_m q1)) (own_m q2))) (own_m q2))), .second, .val (.long (own_minL ((2 : Int64) * (own_minL ((2 : Int64) * (own_minL ((2 : Int64) * (own_m q1)) (own_m q2))) (own_m q2))) (own_m q2))), .second, .val (.long (own_minL ((2 : Int64) * (own_minL ((2 : Int64) * (own_minL ((2 : Int64) * (own_minL ((2 : Int64) * (own_m q1)) (own_m q2))) (own_m q2))) (own_m q2))) (own_m q2))), .second, .val (.long (own_m q1)), .second, .val (.long (own_minL ((2 : Int64) * (own_m q1)) (own_m q2))), .second] [(.long (own_m q2)), (.long (own_m q1)), (.long (own_minL ((2 : Int64) * (own_m q1)) (own_m q2)))])) _
    refine XS.iconst X11.here hx rfl (hb hby at_101) ?_
    show Steps p.tables e below (T11.setTop (mkF m 102 #[.val (.long q1), .second, .val (.long q2), .second, .val (.long (own_m q1)), .second, .val (.long (own_m q2)), .second, .val (.ref b1), .val (.long (own_m q1)), .second, .val (.long (own_minL ((2 : Int64) * (own_m q1)) (own_m q2))), .second, .val (.long (own_minL ((2 : Int64) * (own_minL ((2 : Int64) * (own_m q1)) (own_m q2))) (own_m q2))), .second, .val (.long (own_minL ((2 : Int64) * (own_minL ((2 : Int64) * (own_minL ((2 : Int64) * (own_m q1)) (own_m q2))) (own_m q2))) (own_m q2))), .second, .val (.long (own_minL ((2 : Int64) * (own_minL ((2 : Int64) * (own_minL ((2 : Int64) * (own_minL ((2 : Int64) * (own_m q1)) (own_m q2))) (own_m q2))) (own_m q2))) (own_m q2))), .second, .val (.long (own_m q1)), .second, .val (.long (own_minL ((2 : Int64) * (own_m q1)) (own_m q2))), .second] [(.int (1 : Int32)), (.long (own_m q2)), (.long (own_m q1)), (.long (own_minL ((2 : Int64) * (own_m q1)) (own_m q2)))])) _
    refine st12 _ ?_
    show Steps p.tables e below (T12.setTop (mkF m 105 #[.val (.long q1), .second, .val (.long q2), .second, .val (.long (own_m q1)), .second, .val (.long (own_m q2)), .second, .val (.ref b1), .val (.long (own_m q1)), .second, .val (.long (own_minL ((2 : Int64) * (own_m q1)) (own_m q2))), .second, .val (.long (own_minL ((2 : Int64) * (own_minL ((2 : Int64) * (own_m q1)) (own_m q2))) (own_m q2))), .second, .val (.long (own_minL ((2 : Int64) * (own_minL ((2 : Int64) * (own_minL ((2 : Int64) * (own_m q1)) (own_m q2))) (own_m q2))) (own_m q2))), .second, .val (.long (own_minL ((2 : Int64) * (own_minL ((2 : Int64) * (own_minL ((2 : Int64) * (own_minL ((2 : Int64) * (own_m q1)) (own_m q2))) (own_m q2))) (own_m q2))) (own_m q2))), .second, .val (.long (own_m q1)), .second, .val (.long (own_minL ((2 : Int64) * (own_m q1)) (own_m q2))), .second] [(.long (own_exp (own_m q1) (own_m q2) (1 : Int32))), (.long (own_minL ((2 : Int64) * (own_m q1)) (own_m q2)))])) _
    refine XS.lcmp X12.here hx rfl (hb hby at_105) rfl ?_
    show Steps p.tables e below (T12.setTop (mkF m 106 #[.val (.long q1), .second, .val (.long q2), .second, .val (.long (own_m q1)), .second, .val (.long (own_m q2)), .second, .val (.ref b1), .val (.long (own_m q1)), .second, .val (.long (own_minL ((2 : Int64) * (own_m q1)) (own_m q2))), .second, .val (.long (own_minL ((2 : Int64) * (own_minL ((2 : Int64) * (own_m q1)) (own_m q2))) (own_m q2))), .second, .val (.long (own_minL ((2 : Int64) * (own_minL ((2 : Int64) * (own_minL ((2 : Int64) * (own_m q1)) (own_m q2))) (own_m q2))) (own_m q2))), .second, .val (.long (own_minL ((2 : Int64) * (own_minL ((2 : Int64) * (own_minL ((2 : Int64) * (own_minL ((2 : Int64) * (own_m q1)) (own_m q2))) (own_m q2))) (own_m q2))) (own_m q2))), .second, .val (.long (own_m q1)), .second, .val (.long (own_minL ((2 : Int64) * (own_m q1)) (own_m q2))), .second] [(.int (lcmpW (own_minL ((2 : Int64) * (own_m q1)) (own_m q2)) (own_exp (own_m q1) (own_m q2) (1 : Int32))))])) _
    refine XS.ifNo X12.here hx rfl (hb hby at_106) rfl ((if0 _ _).trans (teq ((lw_eq (own_minL ((2 : Int64) * (own_m q1)) (own_m q2)) (own_exp (own_m q1) (own_m q2) (1 : Int32))).mpr hc106)).2) ?_
    show Steps p.tables e below (T12.setTop (mkF m 109 #[.val (.long q1), .second, .val (.long q2), .second, .val (.long (own_m q1)), .second, .val (.long (own_m q2)), .second, .val (.ref b1), .val (.long (own_m q1)), .second, .val (.long (own_minL ((2 : Int64) * (own_m q1)) (own_m q2))), .second, .val (.long (own_minL ((2 : Int64) * (own_minL ((2 : Int64) * (own_m q1)) (own_m q2))) (own_m q2))), .second, .val (.long (own_minL ((2 : Int64) * (own_minL ((2 : Int64) * (own_minL ((2 : Int64) * (own_m q1)) (own_m q2))) (own_m q2))) (own_m q2))), .second, .val (.long (own_minL ((2 : Int64) * (own_minL ((2 : Int64) * (own_minL ((2 : Int64) * (own_minL ((2 : Int64) * (own_m q1)) (own_m q2))) (own_m q2))) (own_m q2))) (own_m q2))), .second, .val (.long (own_m q1)), .second, .val (.long (own_minL ((2 : Int64) * (own_m q1)) (own_m q2))), .second] [])) _
    refine XS.lload X12.here hx rfl (hb hby at_109) rfl ?_
    show Steps p.tables e below (T12.setTop (mkF m 111 #[.val (.long q1), .second, .val (.long q2), .second, .val (.long (own_m q1)), .second, .val (.long (own_m q2)), .second, .val (.ref b1), .val (.long (own_m q1)), .second, .val (.long (own_minL ((2 : Int64) * (own_m q1)) (own_m q2))), .second, .val (.long (own_minL ((2 : Int64) * (own_minL ((2 : Int64) * (own_m q1)) (own_m q2))) (own_m q2))), .second, .val (.long (own_minL ((2 : Int64) * (own_minL ((2 : Int64) * (own_minL ((2 : Int64) * (own_m q1)) (own_m q2))) (own_m q2))) (own_m q2))), .second, .val (.long (own_minL ((2 : Int64) * (own_minL ((2 : Int64) * (own_minL ((2 : Int64) * (own_minL ((2 : Int64) * (own_m q1)) (own_m q2))) (own_m q2))) (own_m q2))) (own_m q2))), .second, .val (.long (own_m q1)), .second, .val (.long (own_minL ((2 : Int64) * (own_m q1)) (own_m q2))), .second] [(.long (own_minL ((2 : Int64) * (own_minL ((2 : Int64) * (own_m q1)) (own_m q2))) (own_m q2)))])) _
    refine XS.lload X12.here hx rfl (hb hby at_111) rfl ?_
    show Steps p.tables e below (T12.setTop (mkF m 113 #[.val (.long q1), .second, .val (.long q2), .second, .val (.long (own_m q1)), .second, .val (.long (own_m q2)), .second, .val (.ref b1), .val (.long (own_m q1)), .second, .val (.long (own_minL ((2 : Int64) * (own_m q1)) (own_m q2))), .second, .val (.long (own_minL ((2 : Int64) * (own_minL ((2 : Int64) * (own_m q1)) (own_m q2))) (own_m q2))), .second, .val (.long (own_minL ((2 : Int64) * (own_minL ((2 : Int64) * (own_minL ((2 : Int64) * (own_m q1)) (own_m q2))) (own_m q2))) (own_m q2))), .second, .val (.long (own_minL ((2 : Int64) * (own_minL ((2 : Int64) * (own_minL ((2 : Int64) * (own_minL ((2 : Int64) * (own_m q1)) (own_m q2))) (own_m q2))) (own_m q2))) (own_m q2))), .second, .val (.long (own_m q1)), .second, .val (.long (own_minL ((2 : Int64) * (own_m q1)) (own_m q2))), .second] [(.long (own_m q1)), (.long (own_minL ((2 : Int64) * (own_minL ((2 : Int64) * (own_m q1)) (own_m q2))) (own_m q2)))])) _
    refine XS.lload X12.here hx rfl (hb hby at_113) rfl ?_
    show Steps p.tables e below (T12.setTop (mkF m 115 #[.val (.long q1), .second, .val (.long q2), .second, .val (.long (own_m q1)), .second, .val (.long (own_m q2)), .second, .val (.ref b1), .val (.long (own_m q1)), .second, .val (.long (own_minL ((2 : Int64) * (own_m q1)) (own_m q2))), .second, .val (.long (own_minL ((2 : Int64) * (own_minL ((2 : Int64) * (own_m q1)) (own_m q2))) (own_m q2))), .second, .val (.long (own_minL ((2 : Int64) * (own_minL ((2 : Int64) * (own_minL ((2 : Int64) * (own_m q1)) (own_m q2))) (own_m q2))) (own_m q2))), .second, .val (.long (own_minL ((2 : Int64) * (own_minL ((2 : Int64) * (own_minL ((2 : Int64) * (own_minL ((2 : Int64) * (own_m q1)) (own_m q2))) (own_m q2))) (own_m q2))) (own_m q2))), .second, .val (.long (own_m q1)), .second, .val (.long (own_minL ((2 : Int64) * (own_m q1)) (own_m q2))), .second] [(.long (own_m q2)), (.long (own_m q1)), (.long (own_minL ((2 : Int64) * (own_minL ((2 : Int64) * (own_m q1)) (own_m q2))) (own_m q2)))])) _
    refine XS.iconst X12.here hx rfl (hb hby at_115) ?_
    show Steps p.tables e below (T12.setTop (mkF m 116 #[.val (.long q1), .second, .val (.long q2), .second, .val (.long (own_m q1)), .second, .val (.long (own_m q2)), .second, .val (.ref b1), .val (.long (own_m q1)), .second, .val (.long (own_minL ((2 : Int64) * (own_m q1)) (own_m q2))), .second, .val (.long (own_minL ((2 : Int64) * (own_minL ((2 : Int64) * (own_m q1)) (own_m q2))) (own_m q2))), .second, .val (.long (own_minL ((2 : Int64) * (own_minL ((2 : Int64) * (own_minL ((2 : Int64) * (own_m q1)) (own_m q2))) (own_m q2))) (own_m q2))), .second, .val (.long (own_minL ((2 : Int64) * (own_minL ((2 : Int64) * (own_minL ((2 : Int64) * (own_minL ((2 : Int64) * (own_m q1)) (own_m q2))) (own_m q2))) (own_m q2))) (own_m q2))), .second, .val (.long (own_m q1)), .second, .val (.long (own_minL ((2 : Int64) * (own_m q1)) (own_m q2))), .second] [(.int (2 : Int32)), (.long (own_m q2)), (.long (own_m q1)), (.long (own_minL ((2 : Int64) * (own_minL ((2 : Int64) * (own_m q1)) (own_m q2))) (own_m q2)))])) _
    refine st13 _ ?_
    show Steps p.tables e below (T13.setTop (mkF m 119 #[.val (.long q1), .second, .val (.long q2), .second, .val (.long (own_m q1)), .second, .val (.long (own_m q2)), .second, .val (.ref b1), .val (.long (own_m q1)), .second, .val (.long (own_minL ((2 : Int64) * (own_m q1)) (own_m q2))), .second, .val (.long (own_minL ((2 : Int64) * (own_minL ((2 : Int64) * (own_m q1)) (own_m q2))) (own_m q2))), .second, .val (.long (own_minL ((2 : Int64) * (own_minL ((2 : Int64) * (own_minL ((2 : Int64) * (own_m q1)) (own_m q2))) (own_m q2))) (own_m q2))), .second, .val (.long (own_minL ((2 : Int64) * (own_minL ((2 : Int64) * (own_minL ((2 : Int64) * (own_minL ((2 : Int64) * (own_m q1)) (own_m q2))) (own_m q2))) (own_m q2))) (own_m q2))), .second, .val (.long (own_m q1)), .second, .val (.long (own_minL ((2 : Int64) * (own_m q1)) (own_m q2))), .second] [(.long (own_exp (own_m q1) (own_m q2) (2 : Int32))), (.long (own_minL ((2 : Int64) * (own_minL ((2 : Int64) * (own_m q1)) (own_m q2))) (own_m q2)))])) _
    refine XS.lcmp X13.here hx rfl (hb hby at_119) rfl ?_
    show Steps p.tables e below (T13.setTop (mkF m 120 #[.val (.long q1), .second, .val (.long q2), .second, .val (.long (own_m q1)), .second, .val (.long (own_m q2)), .second, .val (.ref b1), .val (.long (own_m q1)), .second, .val (.long (own_minL ((2 : Int64) * (own_m q1)) (own_m q2))), .second, .val (.long (own_minL ((2 : Int64) * (own_minL ((2 : Int64) * (own_m q1)) (own_m q2))) (own_m q2))), .second, .val (.long (own_minL ((2 : Int64) * (own_minL ((2 : Int64) * (own_minL ((2 : Int64) * (own_m q1)) (own_m q2))) (own_m q2))) (own_m q2))), .second, .val (.long (own_minL ((2 : Int64) * (own_minL ((2 : Int64) * (own_minL ((2 : Int64) * (own_minL ((2 : Int64) * (own_m q1)) (own_m q2))) (own_m q2))) (own_m q2))) (own_m q2))), .second, .val (.long (own_m q1)), .second, .val (.long (own_minL ((2 : Int64) * (own_m q1)) (own_m q2))), .second] [(.int (lcmpW (own_minL ((2 : Int64) * (own_minL ((2 : Int64) * (own_m q1)) (own_m q2))) (own_m q2)) (own_exp (own_m q1) (own_m q2) (2 : Int32))))])) _
    refine XS.ifNo X13.here hx rfl (hb hby at_120) rfl ((if0 _ _).trans (teq ((lw_eq (own_minL ((2 : Int64) * (own_minL ((2 : Int64) * (own_m q1)) (own_m q2))) (own_m q2)) (own_exp (own_m q1) (own_m q2) (2 : Int32))).mpr hc120)).2) ?_
    show Steps p.tables e below (T13.setTop (mkF m 123 #[.val (.long q1), .second, .val (.long q2), .second, .val (.long (own_m q1)), .second, .val (.long (own_m q2)), .second, .val (.ref b1), .val (.long (own_m q1)), .second, .val (.long (own_minL ((2 : Int64) * (own_m q1)) (own_m q2))), .second, .val (.long (own_minL ((2 : Int64) * (own_minL ((2 : Int64) * (own_m q1)) (own_m q2))) (own_m q2))), .second, .val (.long (own_minL ((2 : Int64) * (own_minL ((2 : Int64) * (own_minL ((2 : Int64) * (own_m q1)) (own_m q2))) (own_m q2))) (own_m q2))), .second, .val (.long (own_minL ((2 : Int64) * (own_minL ((2 : Int64) * (own_minL ((2 : Int64) * (own_minL ((2 : Int64) * (own_m q1)) (own_m q2))) (own_m q2))) (own_m q2))) (own_m q2))), .second, .val (.long (own_m q1)), .second, .val (.long (own_minL ((2 : Int64) * (own_m q1)) (own_m q2))), .second] [])) _
    refine XS.lload X13.here hx rfl (hb hby at_123) rfl ?_
    show Steps p.tables e below (T13.setTop (mkF m 125 #[.val (.long q1), .second, .val (.long q2), .second, .val (.long (own_m q1)), .second, .val (.long (own_m q2)), .second, .val (.ref b1), .val (.long (own_m q1)), .second, .val (.long (own_minL ((2 : Int64) * (own_m q1)) (own_m q2))), .second, .val (.long (own_minL ((2 : Int64) * (own_minL ((2 : Int64) * (own_m q1)) (own_m q2))) (own_m q2))), .second, .val (.long (own_minL ((2 : Int64) * (own_minL ((2 : Int64) * (own_minL ((2 : Int64) * (own_m q1)) (own_m q2))) (own_m q2))) (own_m q2))), .second, .val (.long (own_minL ((2 : Int64) * (own_minL ((2 : Int64) * (own_minL ((2 : Int64) * (own_minL ((2 : Int64) * (own_m q1)) (own_m q2))) (own_m q2))) (own_m q2))) (own_m q2))), .second, .val (.long (own_m q1)), .second, .val (.long (own_minL ((2 : Int64) * (own_m q1)) (own_m q2))), .second] [(.long (own_minL ((2 : Int64) * (own_minL ((2 : Int64) * (own_minL ((2 : Int64) * (own_m q1)) (own_m q2))) (own_m q2))) (own_m q2)))])) _
    refine XS.lload X13.here hx rfl (hb hby at_125) rfl ?_
    show Steps p.tables e below (T13.setTop (mkF m 127 #[.val (.long q1), .second, .val (.long q2), .second, .val (.long (own_m q1)), .second, .val (.long (own_m q2)), .second, .val (.ref b1), .val (.long (own_m q1)), .second, .val (.long (own_minL ((2 : Int64) * (own_m q1)) (own_m q2))), .second, .val (.long (own_minL ((2 : Int64) * (own_minL ((2 : Int64) * (own_m q1)) (own_m q2))) (own_m q2))), .second, .val (.long (own_minL ((2 : Int64) * (own_minL ((2 : Int64) * (own_minL ((2 : Int64) * (own_m q1)) (own_m q2))) (own_m q2))) (own_m q2))), .second, .val (.long (own_minL ((2 : Int64) * (own_minL ((2 : Int64) * (own_minL ((2 : Int64) * (own_minL ((2 : Int64) * (own_m q1)) (own_m q2))) (own_m q2))) (own_m q2))) (own_m q2))), .second, .val (.long (own_m q1)), .second, .val (.long (own_minL ((2 : Int64) * (own_m q1)) (own_m q2))), .second] [(.long (own_m q1)), (.long (own_minL ((2 : Int64) * (own_minL ((2 : Int64) * (own_minL ((2 : Int64) * (own_m q1)) (own_m q2))) (own_m q2))) (own_m q2)))])) _
    refine XS.lload X13.here hx rfl (hb hby at_127) rfl ?_
    show Steps p.tables e below (T13.setTop (mkF m 129 #[.val (.long q1), .second, .val (.long q2), .second, .val (.long (own_m q1)), .second, .val (.long (own_m q2)), .second, .val (.ref b1), .val (.long (own_m q1)), .second, .val (.long (own_minL ((2 : Int64) * (own_m q1)) (own_m q2))), .second, .val (.long (own_minL ((2 : Int64) * (own_minL ((2 : Int64) * (own_m q1)) (own_m q2))) (own_m q2))), .second, .val (.long (own_minL ((2 : Int64) * (own_minL ((2 : Int64) * (own_minL ((2 : Int64) * (own_m q1)) (own_m q2))) (own_m q2))) (own_m q2))), .second, .val (.long (own_minL ((2 : Int64) * (own_minL ((2 : Int64) * (own_minL ((2 : Int64) * (own_minL ((2 : Int64) * (own_m q1)) (own_m q2))) (own_m q2))) (own_m q2))) (own_m q2))), .second, .val (.long (own_m q1)), .second, .val (.long (own_minL ((2 : Int64) * (own_m q1)) (own_m q2))), .second] [(.long (own_m q2)), (.long (own_m q1)), (.long (own_minL ((2 : Int64) * (own_minL ((2 : Int64) * (own_minL ((2 : Int64) * (own_m q1)) (own_m q2))) (own_m q2))) (own_m q2)))])) _
    refine XS.iconst X13.here hx rfl (hb hby at_129) ?_
    show Steps p.tables e below (T13.setTop (mkF m 130 #[.val (.long q1), .second, .val (.long q2), .second, .val (.long (own_m q1)), .second, .val (.long (own_m q2)), .second, .val (.ref b1), .val (.long (own_m q1)), .second, .val (.long (own_minL ((2 : Int64) * (own_m q1)) (own_m q2))), .second, .val (.long (own_minL ((2 : Int64) * (own_minL ((2 : Int64) * (own_m q1)) (own_m q2))) (own_m q2))), .second, .val (.long (own_minL ((2 : Int64) * (own_minL ((2 : Int64) * (own_minL ((2 : Int64) * (own_m q1)) (own_m q2))) (own_m q2))) (own_m q2))), .second, .val (.long (own_minL ((2 : Int64) * (own_minL ((2 : Int64) * (own_minL ((2 : Int64) * (own_minL ((2 : Int64) * (own_m q1)) (own_m q2))) (own_m q2))) (own_m q2))) (own_m q2))), .second, .val (.long (own_m q1)), .second, .val (.long (own_minL ((2 : Int64) * (own_m q1)) (own_m q2))), .second] [(.int (3 : Int32)), (.long (own_m q2)), (.long (own_m q1)), (.long (own_minL ((2 : Int64) * (own_minL ((2 : Int64) * (own_minL ((2 : Int64) * (own_m q1)) (own_m q2))) (own_m q2))) (own_m q2)))])) _
    refine st14 _ ?_
    show Steps p.tables e below (T14.setTop (mkF m 133 #[.val (.long q1), .second, .val (.long q2), .second, .val (.long (own_m q1)), .second, .val (.long (own_m q2)), .second, .val (.ref b1), .val (.long (own_m q1)), .second, .val (.long (own_minL ((2 : Int64) * (own_m q1)) (own_m q2))), .second, .val (.long (own_minL ((2 : Int64) * (own_minL ((2 : Int64) * (own_m q1)) (own_m q2))) (own_m q2))), .second, .val (.long (own_minL ((2 : Int64) * (own_minL ((2 : Int64) * (own_minL ((2 : Int64) * (own_m q1)) (own_m q2))) (own_m q2))) (own_m q2))), .second, .val (.long (own_minL ((2 : Int64) * (own_minL ((2 : Int64) * (own_minL ((2 : Int64) * (own_minL ((2 : Int64) * (own_m q1)) (own_m q2))) (own_m q2))) (own_m q2))) (own_m q2))), .second, .val (.long (own_m q1)), .second, .val (.long (own_minL ((2 : Int64) * (own_m q1)) (own_m q2))), .second] [(.long (own_exp (own_m q1) (own_m q2) (3 : Int32))), (.long (own_minL ((2 : Int64) * (own_minL ((2 : Int64) * (own_minL ((2 : Int64) * (own_m q1)) (own_m q2))) (own_m q2))) (own_m q2)))])) _
    refine XS.lcmp X14.here hx rfl (hb hby at_133) rfl ?_
    show Steps p.tables e below (T14.setTop (mkF m 134 #[.val (.long q1), .second, .val (.long q2), .second, .val (.long (own_m q1)), .second, .val (.long (own_m q2)), .second, .val (.ref b1), .val (.long (own_m q1)), .second, .val (.long (own_minL ((2 : Int64) * (own_m q1)) (own_m q2))), .second, .val (.long (own_minL ((2 : Int64) * (own_minL ((2 : Int64) * (own_m q1)) (own_m q2))) (own_m q2))), .second, .val (.long (own_minL ((2 : Int64) * (own_minL ((2 : Int64) * (own_minL ((2 : Int64) * (own_m q1)) (own_m q2))) (own_m q2))) (own_m q2))), .second, .val (.long (own_minL ((2 : Int64) * (own_minL ((2 : Int64) * (own_minL ((2 : Int64) * (own_minL ((2 : Int64) * (own_m q1)) (own_m q2))) (own_m q2))) (own_m q2))) (own_m q2))), .second, .val (.long (own_m q1)), .second, .val (.long (own_minL ((2 : Int64) * (own_m q1)) (own_m q2))), .second] [(.int (lcmpW (own_minL ((2 : Int64) * (own_minL ((2 : Int64) * (own_minL ((2 : Int64) * (own_m q1)) (own_m q2))) (own_m q2))) (own_m q2)) (own_exp (own_m q1) (own_m q2) (3 : Int32))))])) _
    refine XS.ifNo X14.here hx rfl (hb hby at_134) rfl ((if0 _ _).trans (teq ((lw_eq (own_minL ((2 : Int64) * (own_minL ((2 : Int64) * (own_minL ((2 : Int64) * (own_m q1)) (own_m q2))) (own_m q2))) (own_m q2)) (own_exp (own_m q1) (own_m q2) (3 : Int32))).mpr hc134)).2) ?_
    show Steps p.tables e below (T14.setTop (mkF m 137 #[.val (.long q1), .second, .val (.long q2), .second, .val (.long (own_m q1)), .second, .val (.long (own_m q2)), .second, .val (.ref b1), .val (.long (own_m q1)), .second, .val (.long (own_minL ((2 : Int64) * (own_m q1)) (own_m q2))), .second, .val (.long (own_minL ((2 : Int64) * (own_minL ((2 : Int64) * (own_m q1)) (own_m q2))) (own_m q2))), .second, .val (.long (own_minL ((2 : Int64) * (own_minL ((2 : Int64) * (own_minL ((2 : Int64) * (own_m q1)) (own_m q2))) (own_m q2))) (own_m q2))), .second, .val (.long (own_minL ((2 : Int64) * (own_minL ((2 : Int64) * (own_minL ((2 : Int64) * (own_minL ((2 : Int64) * (own_m q1)) (own_m q2))) (own_m q2))) (own_m q2))) (own_m q2))), .second, .val (.long (own_m q1)), .second, .val (.long (own_minL ((2 : Int64) * (own_m q1)) (own_m q2))), .second] [])) _
    refine XS.lload X14.here hx rfl (hb hby at_137) rfl ?_
    show Steps p.tables e below (T14.setTop (mkF m 139 #[.val (.long q1), .second, .val (.long q2), .second, .val (.long (own_m q1)), .second, .val (.long (own_m q2)), .second, .val (.ref b1), .val (.long (own_m q1)), .second, .val (.long (own_minL ((2 : Int64) * (own_m q1)) (own_m q2))), .second, .val (.long (own_minL ((2 : Int64) * (own_minL ((2 : Int64) * (own_m q1)) (own_m q2))) (own_m q2))), .second, .val (.long (own_minL ((2 : Int64) * (own_minL ((2 : Int64) * (own_minL ((2 : Int64) * (own_m q1)) (own_m q2))) (own_m q2))) (own_m q2))), .second, .val (.long (own_minL ((2 : Int64) * (own_minL ((2 : Int64) * (own_minL ((2 : Int64) * (own_minL ((2 : Int64) * (own_m q1)) (own_m q2))) (own_m q2))) (own_m q2))) (own_m q2))), .second, .val (.long (own_m q1)), .second, .val (.long (own_minL ((2 : Int64) * (own_m q1)) (own_m q2))), .second] [(.long (own_minL ((2 : Int64) * (own_minL ((2 : Int64) * (own_minL ((2 : Int64) * (own_minL ((2 : Int64) * (own_m q1)) (own_m q2))) (own_m q2))) (own_m q2))) (own_m q2)))])) _
    refine XS.lload X14.here hx rfl (hb hby at_139) rfl ?_
    show Steps p.tables e below (T14.setTop (mkF m 141 #[.val (.long q1), .second, .val (.long q2), .second, .val (.long (own_m q1)), .second, .val (.long (own_m q2)), .second, .val (.ref b1), .val (.long (own_m q1)), .second, .val (.long (own_minL ((2 : Int64) * (own_m q1)) (own_m q2))), .second, .val (.long (own_minL ((2 : Int64) * (own_minL ((2 : Int64) * (own_m q1)) (own_m q2))) (own_m q2))), .second, .val (.long (own_minL ((2 : Int64) * (own_minL ((2 : Int64) * (own_minL ((2 : Int64) * (own_m q1)) (own_m q2))) (own_m q2))) (own_m q2))), .second, .val (.long (own_minL ((2 : Int64) * (own_minL ((2 : Int64) * (own_minL ((2 : Int64) * (own_minL ((2 : Int64) * (own_m q1)) (own_m q2))) (own_m q2))) (own_m q2))) (own_m q2))), .second, .val (.long (own_m q1)), .second, .val (.long (own_minL ((2 : Int64) * (own_m q1)) (own_m q2))), .second] [(.long (own_m q1)), (.long (own_minL ((2 : Int64) * (own_minL ((2 : Int64) * (own_minL ((2 : Int64) * (own_minL ((2 : Int64) * (own_m q1)) (own_m q2))) (own_m q2))) (own_m q2))) (own_m q2)))])) _
    refine XS.lload X14.here hx rfl (hb hby at_141) rfl ?_
    show Steps p.tables e below (T14.setTop (mkF m 143 #[.val (.long q1), .second, .val (.long q2), .second, .val (.long (own_m q1)), .second, .val (.long (own_m q2)), .second, .val (.ref b1), .val (.long (own_m q1)), .second, .val (.long (own_minL ((2 : Int64) * (own_m q1)) (own_m q2))), .second, .val (.long (own_minL ((2 : Int64) * (own_minL ((2 : Int64) * (own_m q1)) (own_m q2))) (own_m q2))), .second, .val (.long (own_minL ((2 : Int64) * (own_minL ((2 : Int64) * (own_minL ((2 : Int64) * (own_m q1)) (own_m q2))) (own_m q2))) (own_m q2))), .second, .val (.long (own_minL ((2 : Int64) * (own_minL ((2 : Int64) * (own_minL ((2 : Int64) * (own_minL ((2 : Int64) * (own_m q1)) (own_m q2))) (own_m q2))) (own_m q2))) (own_m q2))), .second, .val (.long (own_m q1)), .second, .val (.long (own_minL ((2 : Int64) * (own_m q1)) (own_m q2))), .second] [(.long (own_m q2)), (.long (own_m q1)), (.long (own_minL ((2 : Int64) * (own_minL ((2 : Int64) * (own_minL ((2 : Int64) * (own_minL ((2 : Int64) * (own_m q1)) (own_m q2))) (own_m q2))) (own_m q2))) (own_m q2)))])) _
    refine XS.iconst X14.here hx rfl (hb hby at_143) ?_
    show Steps p.tables e below (T14.setTop (mkF m 144 #[.val (.long q1), .second, .val (.long q2), .second, .val (.long (own_m q1)), .second, .val (.long (own_m q2)), .second, .val (.ref b1), .val (.long (own_m q1)), .second, .val (.long (own_minL ((2 : Int64) * (own_m q1)) (own_m q2))), .second, .val (.long (own_minL ((2 : Int64) * (own_minL ((2 : Int64) * (own_m q1)) (own_m q2))) (own_m q2))), .second, .val (.long (own_minL ((2 : Int64) * (own_minL ((2 : Int64) * (own_minL ((2 : Int64) * (own_m q1)) (own_m q2))) (own_m q2))) (own_m q2))), .second, .val (.long (own_minL ((2 : Int64) * (own_minL ((2 : Int64) * (own_minL ((2 : Int64) * (own_minL ((2 : Int64) * (own_m q1)) (own_m q2))) (own_m q2))) (own_m q2))) (own_m q2))), .second, .val (.long (own_m q1)), .second, .val (.long (own_minL ((2 : Int64) * (own_m q1)) (own_m q2))), .second] [(.int (4 : Int32)), (.long (own_m q2)), (.long (own_m q1)), (.long (own_minL ((2 : Int64) * (own_minL ((2 : Int64) * (own_minL ((2 : Int64) * (own_minL ((2 : Int64) * (own_m q1)) (own_m q2))) (own_m q2))) (own_m q2))) (own_m q2)))])) _
    refine st15 _ ?_
    show Steps p.tables e below (T15.setTop (mkF m 147 #[.val (.long q1), .second, .val (.long q2), .second, .val (.long (own_m q1)), .second, .val (.long (own_m q2)), .second, .val (.ref b1), .val (.long (own_m q1)), .second, .val (.long (own_minL ((2 : Int64) * (own_m q1)) (own_m q2))), .second, .val (.long (own_minL ((2 : Int64) * (own_minL ((2 : Int64) * (own_m q1)) (own_m q2))) (own_m q2))), .second, .val (.long (own_minL ((2 : Int64) * (own_minL ((2 : Int64) * (own_minL ((2 : Int64) * (own_m q1)) (own_m q2))) (own_m q2))) (own_m q2))), .second, .val (.long (own_minL ((2 : Int64) * (own_minL ((2 : Int64) * (own_minL ((2 : Int64) * (own_minL ((2 : Int64) * (own_m q1)) (own_m q2))) (own_m q2))) (own_m q2))) (own_m q2))), .second, .val (.long (own_m q1)), .second, .val (.long (own_minL ((2 : Int64) * (own_m q1)) (own_m q2))), .second] [(.long (own_exp (own_m q1) (own_m q2) (4 : Int32))), (.long (own_minL ((2 : Int64) * (own_minL ((2 : Int64) * (own_minL ((2 : Int64) * (own_minL ((2 : Int64) * (own_m q1)) (own_m q2))) (own_m q2))) (own_m q2))) (own_m q2)))])) _
    refine XS.lcmp X15.here hx rfl (hb hby at_147) rfl ?_
    show Steps p.tables e below (T15.setTop (mkF m 148 #[.val (.long q1), .second, .val (.long q2), .second, .val (.long (own_m q1)), .second, .val (.long (own_m q2)), .second, .val (.ref b1), .val (.long (own_m q1)), .second, .val (.long (own_minL ((2 : Int64) * (own_m q1)) (own_m q2))), .second, .val (.long (own_minL ((2 : Int64) * (own_minL ((2 : Int64) * (own_m q1)) (own_m q2))) (own_m q2))), .second, .val (.long (own_minL ((2 : Int64) * (own_minL ((2 : Int64) * (own_minL ((2 : Int64) * (own_m q1)) (own_m q2))) (own_m q2))) (own_m q2))), .second, .val (.long (own_minL ((2 : Int64) * (own_minL ((2 : Int64) * (own_minL ((2 : Int64) * (own_minL ((2 : Int64) * (own_m q1)) (own_m q2))) (own_m q2))) (own_m q2))) (own_m q2))), .second, .val (.long (own_m q1)), .second, .val (.long (own_minL ((2 : Int64) * (own_m q1)) (own_m q2))), .second] [(.int (lcmpW (own_minL ((2 : Int64) * (own_minL ((2 : Int64) * (own_minL ((2 : Int64) * (own_minL ((2 : Int64) * (own_m q1)) (own_m q2))) (own_m q2))) (own_m q2))) (own_m q2)) (own_exp (own_m q1) (own_m q2) (4 : Int32))))])) _
    refine XS.ifNo X15.here hx rfl (hb hby at_148) rfl ((if0 _ _).trans (teq ((lw_eq (own_minL ((2 : Int64) * (own_minL ((2 : Int64) * (own_minL ((2 : Int64) * (own_minL ((2 : Int64) * (own_m q1)) (own_m q2))) (own_m q2))) (own_m q2))) (own_m q2)) (own_exp (own_m q1) (own_m q2) (4 : Int32))).mpr hc148)).2) ?_
    show Steps p.tables e below (T15.setTop (mkF m 151 #[.val (.long q1), .second, .val (.long q2), .second, .val (.long (own_m q1)), .second, .val (.long (own_m q2)), .second, .val (.ref b1), .val (.long (own_m q1)), .second, .val (.long (own_minL ((2 : Int64) * (own_m q1)) (own_m q2))), .second, .val (.long (own_minL ((2 : Int64) * (own_minL ((2 : Int64) * (own_m q1)) (own_m q2))) (own_m q2))), .second, .val (.long (own_minL ((2 : Int64) * (own_minL ((2 : Int64) * (own_minL ((2 : Int64) * (own_m q1)) (own_m q2))) (own_m q2))) (own_m q2))), .second, .val (.long (own_minL ((2 : Int64) * (own_minL ((2 : Int64) * (own_minL ((2 : Int64) * (own_minL ((2 : Int64) * (own_m q1)) (own_m q2))) (own_m q2))) (own_m q2))) (own_m q2))), .second, .val (.long (own_m q1)), .second, .val (.long (own_minL ((2 : Int64) * (own_m q1)) (own_m q2))), .second] [])) _
    refine XS.lload X15.here hx rfl (hb hby at_151) rfl ?_
    show Steps p.tables e below (T15.setTop (mkF m 153 #[.val (.long q1), .second, .val (.long q2), .second, .val (.long (own_m q1)), .second, .val (.long (own_m q2)), .second, .val (.ref b1), .val (.long (own_m q1)), .second, .val (.long (own_minL ((2 : Int64) * (own_m q1)) (own_m q2))), .second, .val (.long (own_minL ((2 : Int64) * (own_minL ((2 : Int64) * (own_m q1)) (own_m q2))) (own_m q2))), .second, .val (.long (own_minL ((2 : Int64) * (own_minL ((2 : Int64) * (own_minL ((2 : Int64) * (own_m q1)) (own_m q2))) (own_m q2))) (own_m q2))), .second, .val (.long (own_minL ((2 : Int64) * (own_minL ((2 : Int64) * (own_minL ((2 : Int64) * (own_minL ((2 : Int64) * (own_m q1)) (own_m q2))) (own_m q2))) (own_m q2))) (own_m q2))), .second, .val (.long (own_m q1)), .second, .val (.long (own_minL ((2 : Int64) * (own_m q1)) (own_m q2))), .second] [(.long (own_m q1))])) _
    refine XS.lload X15.here hx rfl (hb hby at_153) rfl ?_
    show Steps p.tables e below (T15.setTop (mkF m 155 #[.val (.long q1), .second, .val (.long q2), .second, .val (.long (own_m q1)), .second, .val (.long (own_m q2)), .second, .val (.ref b1), .val (.long (own_m q1)), .second, .val (.long (own_minL ((2 : Int64) * (own_m q1)) (own_m q2))), .second, .val (.long (own_minL ((2 : Int64) * (own_minL ((2 : Int64) * (own_m q1)) (own_m q2))) (own_m q2))), .second, .val (.long (own_minL ((2 : Int64) * (own_minL ((2 : Int64) * (own_minL ((2 : Int64) * (own_m q1)) (own_m q2))) (own_m q2))) (own_m q2))), .second, .val (.long (own_minL ((2 : Int64) * (own_minL ((2 : Int64) * (own_minL ((2 : Int64) * (own_minL ((2 : Int64) * (own_m q1)) (own_m q2))) (own_m q2))) (own_m q2))) (own_m q2))), .second, .val (.long (own_m q1)), .second, .val (.long (own_minL ((2 : Int64) * (own_m q1)) (own_m q2))), .second] [(.long (own_m q1)), (.long (own_m q1))])) _
    refine XS.lload X15.here hx rfl (hb hby at_155) rfl ?_
    show Steps p.tables e below (T15.setTop (mkF m 157 #[.val (.long q1), .second, .val (.long q2), .second, .val (.long (own_m q1)), .second, .val (.long (own_m q2)), .second, .val (.ref b1), .val (.long (own_m q1)), .second, .val (.long (own_minL ((2 : Int64) * (own_m q1)) (own_m q2))), .second, .val (.long (own_minL ((2 : Int64) * (own_minL ((2 : Int64) * (own_m q1)) (own_m q2))) (own_m q2))), .second, .val (.long (own_minL ((2 : Int64) * (own_minL ((2 : Int64) * (own_minL ((2 : Int64) * (own_m q1)) (own_m q2))) (own_m q2))) (own_m q2))), .second, .val (.long (own_minL ((2 : Int64) * (own_minL ((2 : Int64) * (own_minL ((2 : Int64) * (own_minL ((2 : Int64) * (own_m q1)) (own_m q2))) (own_m q2))) (own_m q2))) (own_m q2))), .second, .val (.long (own_m q1)), .second, .val (.long (own_minL ((2 : Int64) * (own_m q1)) (own_m q2))), .second] [(.long (own_m q2)), (.long (own_m q1)), (.long (own_m q1))])) _
    refine XS.iconst X15.here hx rfl (hb hby at_157) ?_
    show Steps p.tables e below (T15.setTop (mkF m 158 #[.val (.long q1), .second, .val (.long q2), .second, .val (.long (own_m q1)), .second, .val (.long (own_m q2)), .second, .val (.ref b1), .val (.long (own_m q1)), .second, .val (.long (own_minL ((2 : Int64) * (own_m q1)) (own_m q2))), .second, .val (.long (own_minL ((2 : Int64) * (own_minL ((2 : Int64) * (own_m q1)) (own_m q2))) (own_m q2))), .second, .val (.long (own_minL ((2 : Int64) * (own_minL ((2 : Int64) * (own_minL ((2 : Int64) * (own_m q1)) (own_m q2))) (own_m q2))) (own_m q2))), .second, .val (.long (own_minL ((2 : Int64) * (own_minL ((2 : Int64) * (own_minL ((2 : Int64) * (own_minL ((2 : Int64) * (own_m q1)) (own_m q2))) (own_m q2))) (own_m q2))) (own_m q2))), .second, .val (.long (own_m q1)), .second, .val (.long (own_minL ((2 : Int64) * (own_m q1)) (own_m q2))), .second] [(.int (0 : Int32)), (.long (own_m q2)), (.long (own_m q1)), (.long (own_m q1))])) _
    refine st16 _ ?_
    show Steps p.tables e below (T16.setTop (mkF m 161 #[.val (.long q1), .second, .val (.long q2), .second, .val (.long (own_m q1)), .second, .val (.long (own_m q2)), .second, .val (.ref b1), .val (.long (own_m q1)), .second, .val (.long (own_minL ((2 : Int64) * (own_m q1)) (own_m q2))), .second, .val (.long (own_minL ((2 : Int64) * (own_minL ((2 : Int64) * (own_m q1)) (own_m q2))) (own_m q2))), .second, .val (.long (own_minL ((2 : Int64) * (own_minL ((2 : Int64) * (own_minL ((2 : Int64) * (own_m q1)) (own_m q2))) (own_m q2))) (own_m q2))), .second, .val (.long (own_minL ((2 : Int64) * (own_minL ((2 : Int64) * (own_minL ((2 : Int64) * (own_minL ((2 : Int64) * (own_m q1)) (own_m q2))) (own_m q2))) (own_m q2))) (own_m q2))), .second, .val (.long (own_m q1)), .second, .val (.long (own_minL ((2 : Int64) * (own_m q1)) (own_m q2))), .second] [(.long (own_exp (own_m q1) (own_m q2) (0 : Int32))), (.long (own_m q1))])) _
    refine XS.lcmp X16.here hx rfl (hb hby at_161) rfl ?_
    show Steps p.tables e below (T16.setTop (mkF m 162 #[.val (.long q1), .second, .val (.long q2), .second, .val (.long (own_m q1)), .second, .val (.long (own_m q2)), .second, .val (.ref b1), .val (.long (own_m q1)), .second, .val (.long (own_minL ((2 : Int64) * (own_m q1)) (own_m q2))), .second, .val (.long (own_minL ((2 : Int64) * (own_minL ((2 : Int64) * (own_m q1)) (own_m q2))) (own_m q2))), .second, .val (.long (own_minL ((2 : Int64) * (own_minL ((2 : Int64) * (own_minL ((2 : Int64) * (own_m q1)) (own_m q2))) (own_m q2))) (own_m q2))), .second, .val (.long (own_minL ((2 : Int64) * (own_minL ((2 : Int64) * (own_minL ((2 : Int64) * (own_minL ((2 : Int64) * (own_m q1)) (own_m q2))) (own_m q2))) (own_m q2))) (own_m q2))), .second, .val (.long (own_m q1)), .second, .val (.long (own_minL ((2 : Int64) * (own_m q1)) (own_m q2))), .second] [(.int (lcmpW (own_m q1) (own_exp (own_m q1) (own_m q2) (0 : Int32))))])) _
    refine XS.ifNo X16.here hx rfl (hb hby at_162) rfl ((if0 _ _).trans (teq ((lw_eq (own_m q1) (own_exp (own_m q1) (own_m q2) (0 : Int32))).mpr hc92)).2) ?_
    show Steps p.tables e below (T16.setTop (mkF m 165 #[.val (.long q1), .second, .val (.long q2), .second, .val (.long (own_m q1)), .second, .val (.long (own_m q2)), .second, .val (.ref b1), .val (.long (own_m q1)), .second, .val (.long (own_minL ((2 : Int64) * (own_m q1)) (own_m q2))), .second, .val (.long (own_minL ((2 : Int64) * (own_minL ((2 : Int64) * (own_m q1)) (own_m q2))) (own_m q2))), .second, .val (.long (own_minL ((2 : Int64) * (own_minL ((2 : Int64) * (own_minL ((2 : Int64) * (own_m q1)) (own_m q2))) (own_m q2))) (own_m q2))), .second, .val (.long (own_minL ((2 : Int64) * (own_minL ((2 : Int64) * (own_minL ((2 : Int64) * (own_minL ((2 : Int64) * (own_m q1)) (own_m q2))) (own_m q2))) (own_m q2))) (own_m q2))), .second, .val (.long (own_m q1)), .second, .val (.long (own_minL ((2 : Int64) * (own_m q1)) (own_m q2))), .second] [])) _
    refine XS.lload X16.here hx rfl (hb hby at_165) rfl ?_
    show Steps p.tables e below (T16.setTop (mkF m 167 #[.val (.long q1), .second, .val (.long q2), .second, .val (.long (own_m q1)), .second, .val (.long (own_m q2)), .second, .val (.ref b1), .val (.long (own_m q1)), .second, .val (.long (own_minL ((2 : Int64) * (own_m q1)) (own_m q2))), .second, .val (.long (own_minL ((2 : Int64) * (own_minL ((2 : Int64) * (own_m q1)) (own_m q2))) (own_m q2))), .second, .val (.long (own_minL ((2 : Int64) * (own_minL ((2 : Int64) * (own_minL ((2 : Int64) * (own_m q1)) (own_m q2))) (own_m q2))) (own_m q2))), .second, .val (.long (own_minL ((2 : Int64) * (own_minL ((2 : Int64) * (own_minL ((2 : Int64) * (own_minL ((2 : Int64) * (own_m q1)) (own_m q2))) (own_m q2))) (own_m q2))) (own_m q2))), .second, .val (.long (own_m q1)), .second, .val (.long (own_minL ((2 : Int64) * (own_m q1)) (own_m q2))), .second] [(.long (own_minL ((2 : Int64) * (own_m q1)) (own_m q2)))])) _
    refine XS.lload X16.here hx rfl (hb hby at_167) rfl ?_
    show Steps p.tables e below (T16.setTop (mkF m 169 #[.val (.long q1), .second, .val (.long q2), .second, .val (.long (own_m q1)), .second, .val (.long (own_m q2)), .second, .val (.ref b1), .val (.long (own_m q1)), .second, .val (.long (own_minL ((2 : Int64) * (own_m q1)) (own_m q2))), .second, .val (.long (own_minL ((2 : Int64) * (own_minL ((2 : Int64) * (own_m q1)) (own_m q2))) (own_m q2))), .second, .val (.long (own_minL ((2 : Int64) * (own_minL ((2 : Int64) * (own_minL ((2 : Int64) * (own_m q1)) (own_m q2))) (own_m q2))) (own_m q2))), .second, .val (.long (own_minL ((2 : Int64) * (own_minL ((2 : Int64) * (own_minL ((2 : Int64) * (own_minL ((2 : Int64) * (own_m q1)) (own_m q2))) (own_m q2))) (own_m q2))) (own_m q2))), .second, .val (.long (own_m q1)), .second, .val (.long (own_minL ((2 : Int64) * (own_m q1)) (own_m q2))), .second] [(.long (own_m q1)), (.long (own_minL ((2 : Int64) * (own_m q1)) (own_m q2)))])) _
    refine XS.lload X16.here hx rfl (hb hby at_169) rfl ?_
    show Steps p.tables e below (T16.setTop (mkF m 171 #[.val (.long q1), .second, .val (.long q2), .second, .val (.long (own_m q1)), .second, .val (.long (own_m q2)), .second, .val (.ref b1), .val (.long (own_m q1)), .second, .val (.long (own_minL ((2 : Int64) * (own_m q1)) (own_m q2))), .second, .val (.long (own_minL ((2 : Int64) * (own_minL ((2 : Int64) * (own_m q1)) (own_m q2))) (own_m q2))), .second, .val (.long (own_minL ((2 : Int64) * (own_minL ((2 : Int64) * (own_minL ((2 : Int64) * (own_m q1)) (own_m q2))) (own_m q2))) (own_m q2))), .second, .val (.long (own_minL ((2 : Int64) * (own_minL ((2 : Int64) * (own_minL ((2 : Int64) * (own_minL ((2 : Int64) * (own_m q1)) (own_m q2))) (own_m q2))) (own_m q2))) (own_m q2))), .second, .val (.long (own_m q1)), .second, .val (.long (own_minL ((2 : Int64) * (own_m q1)) (own_m q2))), .second] [(.long (own_m q2)), (.long (own_m q1)), (.long (own_minL ((2 : Int64) * (own_m q1)) (own_m q2)))])) _
    refine XS.iconst X16.here hx rfl (hb hby at_171) ?_
    show Steps p.tables e below (T16.setTop (mkF m 172 #[.val (.long q1), .second, .val (.long q2), .second, .val (.long (own_m q1)), .second, .val (.long (own_m q2)), .second, .val (.ref b1), .val (.long (own_m q1)), .second, .val (.long (own_minL ((2 : Int64) * (own_m q1)) (own_m q2))), .second, .val (.long (own_minL ((2 : Int64) * (own_minL ((2 : Int64) * (own_m q1)) (own_m q2))) (own_m q2))), .second, .val (.long (own_minL ((2 : Int64) * (own_minL ((2 : Int64) * (own_minL ((2 : Int64) * (own_m q1)) (own_m q2))) (own_m q2))) (own_m q2))), .second, .val (.long (own_minL ((2 : Int64) * (own_minL ((2 : Int64) * (own_minL ((2 : Int64) * (own_minL ((2 : Int64) * (own_m q1)) (own_m q2))) (own_m q2))) (own_m q2))) (own_m q2))), .second, .val (.long (own_m q1)), .second, .val (.long (own_minL ((2 : Int64) * (own_m q1)) (own_m q2))), .second] [(.int (1 : Int32)), (.long (own_m q2)), (.long (own_m q1)), (.long (own_minL ((2 : Int64) * (own_m q1)) (own_m q2)))])) _
    refine st17 _ ?_
    show Steps p.tables e below (T17.setTop (mkF m 175 #[.val (.long q1), .second, .val (.long q2), .second, .val (.long (own_m q1)), .second, .val (.long (own_m q2)), .second, .val (.ref b1), .val (.long (own_m q1)), .second, .val (.long (own_minL ((2 : Int64) * (own_m q1)) (own_m q2))), .second, .val (.long (own_minL ((2 : Int64) * (own_minL ((2 : Int64) * (own_m q1)) (own_m q2))) (own_m q2))), .second, .val (.long (own_minL ((2 : Int64) * (own_minL ((2 : Int64) * (own_minL ((2 : Int64) * (own_m q1)) (own_m q2))) (own_m q2))) (own_m q2))), .second, .val (.long (own_minL ((2 : Int64) * (own_minL ((2 : Int64) * (own_minL ((2 : Int64) * (own_minL ((2 : Int64) * (own_m q1)) (own_m q2))) (own_m q2))) (own_m q2))) (own_m q2))), .second, .val (.long (own_m q1)), .second, .val (.long (own_minL ((2 : Int64) * (own_m q1)) (own_m q2))), .second] [(.long (own_exp (own_m q1) (own_m q2) (1 : Int32))), (.long (own_minL ((2 : Int64) * (own_m q1)) (own_m q2)))])) _
    refine XS.lcmp X17.here hx rfl (hb hby at_175) rfl ?_
    show Steps p.tables e below (T17.setTop (mkF m 176 #[.val (.long q1), .second, .val (.long q2), .second, .val (.long (own_m q1)), .second, .val (.long (own_m q2)), .second, .val (.ref b1), .val (.long (own_m q1)), .second, .val (.long (own_minL ((2 : Int64) * (own_m q1)) (own_m q2))), .second, .val (.long (own_minL ((2 : Int64) * (own_minL ((2 : Int64) * (own_m q1)) (own_m q2))) (own_m q2))), .second, .val (.long (own_minL ((2 : Int64) * (own_minL ((2 : Int64) * (own_minL ((2 : Int64) * (own_m q1)) (own_m q2))) (own_m q2))) (own_m q2))), .second, .val (.long (own_minL ((2 : Int64) * (own_minL ((2 : Int64) * (own_minL ((2 : Int64) * (own_minL ((2 : Int64) * (own_m q1)) (own_m q2))) (own_m q2))) (own_m q2))) (own_m q2))), .second, .val (.long (own_m q1)), .second, .val (.long (own_minL ((2 : Int64) * (own_m q1)) (own_m q2))), .second] [(.int (lcmpW (own_minL ((2 : Int64) * (own_m q1)) (own_m q2)) (own_exp (own_m q1) (own_m q2) (1 : Int32))))])) _
    refine XS.ifNo X17.here hx rfl (hb hby at_176) rfl ((if0 _ _).trans (teq ((lw_eq (own_minL ((2 : Int64) * (own_m q1)) (own_m q2)) (own_exp (own_m q1) (own_m q2) (1 : Int32))).mpr hc106)).2) ?_
    show Steps p.tables e below (T17.setTop (mkF m 179 #[.val (.long q1), .second, .val (.long q2), .second, .val (.long (own_m q1)), .second, .val (.long (own_m q2)), .second, .val (.ref b1), .val (.long (own_m q1)), .second, .val (.long (own_minL ((2 : Int64) * (own_m q1)) (own_m q2))), .second, .val (.long (own_minL ((2 : Int64) * (own_minL ((2 : Int64) * (own_m q1)) (own_m q2))) (own_m q2))), .second, .val (.long (own_minL ((2 : Int64) * (own_minL ((2 : Int64) * (own_minL ((2 : Int64) * (own_m q1)) (own_m q2))) (own_m q2))) (own_m q2))), .second, .val (.long (own_minL ((2 : Int64) * (own_minL ((2 : Int64) * (own_minL ((2 : Int64) * (own_minL ((2 : Int64) * (own_m q1)) (own_m q2))) (own_m q2))) (own_m q2))) (own_m q2))), .second, .val (.long (own_m q1)), .second, .val (.long (own_minL ((2 : Int64) * (own_m q1)) (own_m q2))), .second] [])) _
    refine XS.iconst X17.here hx rfl (hb hby at_179) ?_
    show Steps p.tables e below (T17.setTop (mkF m 180 #[.val (.long q1), .second, .val (.long q2), .second, .val (.long (own_m q1)), .second, .val (.long (own_m q2)), .second, .val (.ref b1), .val (.long (own_m q1)), .second, .val (.long (own_minL ((2 : Int64) * (own_m q1)) (own_m q2))), .second, .val (.long (own_minL ((2 : Int64) * (own_minL ((2 : Int64) * (own_m q1)) (own_m q2))) (own_m q2))), .second, .val (.long (own_minL ((2 : Int64) * (own_minL ((2 : Int64) * (own_minL ((2 : Int64) * (own_m q1)) (own_m q2))) (own_m q2))) (own_m q2))), .second, .val (.long (own_minL ((2 : Int64) * (own_minL ((2 : Int64) * (own_minL ((2 : Int64) * (own_minL ((2 : Int64) * (own_m q1)) (own_m q2))) (own_m q2))) (own_m q2))) (own_m q2))), .second, .val (.long (own_m q1)), .second, .val (.long (own_minL ((2 : Int64) * (own_m q1)) (own_m q2))), .second] [(.int (1 : Int32))])) _
    refine XS.goto X17.here hx rfl (pc0 := 180) (pc' := 184) rfl (hb hby at_180) (by decide) (by decide) ?_
    show Steps p.tables e below (T17.setTop (mkF m 184 #[.val (.long q1), .second, .val (.long q2), .second, .val (.long (own_m q1)), .second, .val (.long (own_m q2)), .second, .val (.ref b1), .val (.long (own_m q1)), .second, .val (.long (own_minL ((2 : Int64) * (own_m q1)) (own_m q2))), .second, .val (.long (own_minL ((2 : Int64) * (own_minL ((2 : Int64) * (own_m q1)) (own_m q2))) (own_m q2))), .second, .val (.long (own_minL ((2 : Int64) * (own_minL ((2 : Int64) * (own_minL ((2 : Int64) * (own_m q1)) (own_m q2))) (own_m q2))) (own_m q2))), .second, .val (.long (own_minL ((2 : Int64) * (own_minL ((2 : Int64) * (own_minL ((2 : Int64) * (own_minL ((2 : Int64) * (own_m q1)) (own_m q2))) (own_m q2))) (own_m q2))) (own_m q2))), .second, .val (.long (own_m q1)), .second, .val (.long (own_minL ((2 : Int64) * (own_m q1)) (own_m q2))), .second] [(.int (1 : Int32))])) _
    exact retN X17 hx (t := .boolean) Bd.returns (by simp) (hb hby at_184) hr
  · show Q_rm0 Z q1 q2 h0 n0 _ T17.heap _
    rw [e17]
    exact ⟨rfl, N17, Q10⟩
theorem rm0 (l : Launch) (Z : State) (a0 : Array Value) (hw : ∀ d ∈ tables_1, d.before a0 Z = true) (ws : List Jvm.Cond) (q1 : Int64) (q2 : Int64) (h0 : Heap) (n0 : Nat) (Z0 : n0 ≤ h0.size) :
    MetFree l x (head1 (Jvm.Cond.code x code maxLocals ret :: ws) room_1) (fun a U => a = #[(.long q1), (.long q2)] ∧ Z.Warmed39 U.vm ∧ U.heap = h0) (fun _ _ _ _ _ => True) (fun _ U o U' => ∃ v L, o = .returned v ∧ Q_rm0 Z q1 q2 h0 n0 v U'.heap L ∧ FrameEnd U o U' L room_1.cells room_1.slots) := by
  by_cases hc92 : (own_m q1) = (own_exp (own_m q1) (own_m q2) (0 : Int32))
  · skip
    by_cases hc106 : (own_minL ((2 : Int64) * (own_m q1)) (own_m q2)) = (own_exp (own_m q1) (own_m q2) (1 : Int32))
    · skip
      by_cases hc120 : (own_minL ((2 : Int64) * (own_minL ((2 : Int64) * (own_m q1)) (own_m q2))) (own_m q2)) = (own_exp (own_m q1) (own_m q2) (2 : Int32))
      · skip
        by_cases hc134 : (own_minL ((2 : Int64) * (own_minL ((2 : Int64) * (own_minL ((2 : Int64) * (own_m q1)) (own_m q2))) (own_m q2))) (own_m q2)) = (own_exp (own_m q1) (own_m q2) (3 : Int32))
        · skip
          by_cases hc148 : (own_minL ((2 : Int64) * (own_minL ((2 : Int64) * (own_minL ((2 : Int64) * (own_minL ((2 : Int64) * (own_m q1)) (own_m q2))) (own_m q2))) (own_m q2))) (own_m q2)) = (own_exp (own_m q1) (own_m q2) (4 : Int32))
          · skip
            exact rm0_ttttt l Z a0 hw ws q1 q2 h0 n0 Z0 hc92 hc106 hc120 hc134 hc148
          · skip
            exfalso
            exact hc148 (own_law q1 q2).2.2.2.2
        · skip
          exfalso
          exact hc134 (own_law q1 q2).2.2.2.1
      · skip
        exfalso
        exact hc120 (own_law q1 q2).2.2.1
    · skip
      exfalso
      exact hc106 (own_law q1 q2).2.1
  · skip
    exfalso
    exact hc92 (own_law q1 q2).1
set_option maxRecDepth 65536 in
set_option maxHeartbeats 40000000 in
theorem comes_1 {Post : Tables → Env → Array Value → State → Outcome → State → Prop} (hpost : ∀ tb e args s v u, (limb_1_1.after args s (.returned v) u = true ∧ limb_1_2.after args s (.returned v) u = true ∧ True) → FrameEnd s (.returned v) u (Jvm.fieldLocs frame_1_writes args s ++ Jvm.arrayLocs frame_1_arrays args s ++ Jvm.staticLocs frame_1_statics s) 16 128 → Post tb e args s (.returned v) u) :
    ArmFor flags0 classFile x code maxLocals ret World_1 tables_1 room_1 Calls_1 rest_1 Pre_1 Post := by
  intro l hfl _ _ p e ha hc hk s m args below hf hA hF happ hP
  obtain ⟨hcalls, hrest, hpre⟩ := hP
  obtain ⟨-, -, -, hnamed, -, -, -, hat⟩ := (Spec.applies_iff hf).mp happ
  obtain ⟨hg, hn⟩ := and_e (Cond.before_iff.mp (show (Jvm.Cond.and given_1 narrow_1).before args s = true from hpre))
  obtain ⟨g0, gr0⟩ := and_e hg
  obtain ⟨g1, gr1⟩ := and_e gr0
  obtain ⟨w0, w1, rfl⟩ : ∃ w0 w1 : Value, args = #[w0, w1] := by
    have hs : args.size = 2 := by simpa [Cond.value, given_1] using g0
    obtain ⟨L⟩ := args
    match L, hs with
    | [w0, w1], _ => exact ⟨w0, w1, rfl⟩
  have hw := fun d (hd : d ∈ tables_1) => atoms_spec (ws := Jvm.Cond.code x code maxLocals ret :: tables_1) hat d (List.mem_cons_of_mem _ hd)
  have hfit : Fit s := fun {y c} hc i hi => by
    obtain ⟨ha, rfl⟩ := Array.getElem?_eq_some_iff.mp hc
    have q := List.all_eq_true.mp ((Array.all_eq_true_iff_forall_mem.mp hF) _ (Array.getElem_mem ha)) i (List.mem_range.mpr hi)
    simpa [Array.getElem?_eq_getElem hi] using q
  obtain ⟨i0, ei0⟩ := isL_v g1
  obtain rfl : w0 = (.long i0) := Option.some.inj ei0
  obtain ⟨i1, ei1⟩ := isL_v gr1
  obtain rfl : w1 = (.long i1) := Option.some.inj ei1
  obtain ⟨n, o, h1, h2, h3, _, L, rfl, ⟨rfl, N, -⟩, hq⟩ := rm0 l s _ hw tables_1 i0 i1  s.heap s.heap.size (Nat.le_refl _)  p e ha hc hk s m _ below hf ((Spec.applies_iff_loose hf).mp happ).1 ⟨rfl, State.Warmed39.refl s, rfl⟩ trivial
  refine ⟨n, _, h1, h2, h3, hpost _ _ _ _ _ _ ⟨Cond.after_iff.mpr rfl, Cond.after_iff.mpr (eq_i res_at (Term.int_eval (1)) rfl), trivial⟩ ⟨hq.1, hq.2.1, (hq.2.2.sift fun y hy => Or.inr (N y hy)).mono (by decide) (by decide)⟩⟩
theorem main_1_1 : Claimed_1_1 := comes_1 fun _ _ _ _ _ _ h hF => ⟨h.1, hF⟩
theorem main_1_2 : Claimed_1_2 := comes_1 fun _ _ _ _ _ _ h hF => ⟨h.2.1, hF⟩
end Jvm.Pilot.@@N@@
namespace Jvm.Pilot.@@N@@
open Jvm Jvm.ClassFile Sem Op Lib Jvm.Free Jvm.Stand Jvm.Pilot.@@N@@.Jvm.D
/-! MADE BY PROGRAM (witnessworld.py) out of the Statement's table words and the real class files: 10 classes; the members and pool entries that the words name. The judged class is class 1, her method 2. -/
namespace start1
open Jvm.ClassFile
def u (s : String) : CpInfo := .utf8 (stringToUtf16 s)
/-- a pool by its gaps: so many unusable entries, then the entry; so many at the end -/
def gap : Nat → List CpInfo → List CpInfo
  | 0, r => r
  | n + 1, r => .unusable :: gap n r
def poolList (es : List (Nat × CpInfo)) (last : Nat) : List CpInfo := es.foldr (fun e r => gap e.1 (e.2 :: r)) (gap last [])
def pool (es : List (Nat × CpInfo)) (last : Nat) : Array CpInfo := ⟨poolList es last⟩
def fileOf (pool : Array CpInfo) (this : Nat) (attrs : Array Attribute := #[]) (ms : Array MethodInfo := #[]) (fl : Nat := 33) (sup : Nat := 0) (ifs : Array Nat := #[]) (fds : Array FieldInfo := #[]) : ClassFile where
  minorVersion := 0
  majorVersion := 65
  constantPool := pool
  accessFlags := fl
  thisClass := this
  superClass := sup
  interfaces := ifs
  fields := fds
  methods := ms
  attributes := attrs
def plain (name : String) (sup : Option ClassId) : Class where
  name := name
  kind := .ordinary
  loader := none
  accessFlags := 33
  super := sup
  interfaces := #[]
  cf := none
  fields := #[]
  methods := #[]
  instanceTypes := #[]
  staticTypes := #[]
  resolved := #[]
  callSites := []
  init := .initialized
  statics := none
  mirror := none

def pool0 : Array CpInfo := pool [(5, u "<init>"), (0, u "()V"), (1, .class_ 10), (1, u "java/lang/Object")] 113

def k0c0 : Code := { maxStack := 0, maxLocals := 1, code := object_method_1_code, exceptionTable := #[], attributes := #[] }
def k0m0 : Method := { name := "<init>", desc := "()V", sig := { parameters := [], returnType := none }, accessFlags := 1, code := some k0c0 }
/-- java/lang/Object -/
def k0 : Class := { plain "java/lang/Object" none with
  accessFlags := 33
  interfaces := #[]
  cf := some (fileOf pool0 8 #[] #[{ accessFlags := 1, nameIndex := 5, descriptorIndex := 6, attributes := #[] }] 33 0 #[] #[])
  fields := #[]
  methods := #[k0m0]
  instanceTypes := #[]
  staticTypes := #[]
  resolved := Array.replicate 124 none
  statics := none }

def pool1 : Array CpInfo := pool [(2, .class_ 4), (1, u "java/lang/Object"), (0, u "<init>"), (0, u "()V"), (0, .long 4611686018427387903), (1, .class_ 10), (0, u "com/example/nabu/nabu/relay/Backoff"), (0, .methodref 9 12), (0, .nameAndType 5 13), (0, u "(JJ)V"), (0, .methodref 9 15), (0, .nameAndType 16 17), (0, u "next"), (0, u "()J"), (0, .methodref 9 19), (0, .nameAndType 20 6), (0, u "reset"), (0, .methodref 22 23), (0, .class_ 24), (0, .nameAndType 25 26), (0, u "com/example/nabu/nabu/relay/BackoffNextPinLaw"), (0, u "expected"), (0, u "(JJI)J"), (3, u "law"), (0, u "(JJ)Z")] 2

def k1m0 : Method := { name := "<init>", desc := "()V", sig := { parameters := [], returnType := none }, accessFlags := 2, code := none }
def k1c1 : Code := { maxStack := 5, maxLocals := 5, code := method_2_code, exceptionTable := #[], attributes := #[] }
def k1m1 : Method := { name := "expected", desc := "(JJI)J", sig := { parameters := [.long, .long, .int], returnType := some .long }, accessFlags := 10, code := some k1c1 }
def k1c2 : Code := { maxStack := 7, maxLocals := 23, code := code, exceptionTable := #[], attributes := #[] }
def k1m2 : Method := { name := "law", desc := "(JJ)Z", sig := { parameters := [.long, .long], returnType := some .boolean }, accessFlags := 9, code := some k1c2 }
/-- com/example/nabu/nabu/relay/BackoffNextPinLaw -/
def k1 : Class := { plain "com/example/nabu/nabu/relay/BackoffNextPinLaw" (some 0) with
  accessFlags := 49
  interfaces := #[]
  cf := some (fileOf pool1 22 #[] #[{ accessFlags := 2, nameIndex := 5, descriptorIndex := 6, attributes := #[] }, { accessFlags := 10, nameIndex := 25, descriptorIndex := 26, attributes := #[] }, { accessFlags := 9, nameIndex := 30, descriptorIndex := 31, attributes := #[] }] 49 2 #[] #[])
  fields := #[]
  methods := #[k1m0, k1m1, k1m2]
  instanceTypes := #[]
  staticTypes := #[]
  resolved := Array.replicate 34 none
  statics := none }

def pool2 : Array CpInfo := pool [(1, .class_ 2), (0, u "com/example/nabu/nabu/relay/Backoff"), (6, u "<init>"), (0, u "(JJ)V"), (0, .methodref 12 13), (0, .class_ 14), (0, .nameAndType 9 15), (0, u "java/lang/Object"), (0, u "()V"), (0, .fieldref 1 17), (0, .nameAndType 18 19), (0, u "firstWaitMillis"), (0, u "J"), (0, .fieldref 1 21), (0, .nameAndType 22 19), (0, u "lastWaitMillis"), (0, .fieldref 1 24), (0, .nameAndType 25 19), (0, u "nextWaitMillis"), (0, .long 2), (1, .methodref 29 30), (0, .class_ 31), (0, .nameAndType 32 33), (0, u "java/lang/Math"), (0, u "min"), (0, u "(JJ)J"), (0, u "FIRST_WAIT_MILLIS"), (1, u "LAST_WAIT_MILLIS"), (2, u "next"), (0, u "()J"), (0, u "reset")] 2

def k2m0 : Method := { name := "<init>", desc := "()V", sig := { parameters := [], returnType := none }, accessFlags := 0, code := none }
def k2c1 : Code := { maxStack := 3, maxLocals := 5, code := prog_8_method_2_code, exceptionTable := #[], attributes := #[] }
def k2m1 : Method := { name := "<init>", desc := "(JJ)V", sig := { parameters := [.long, .long], returnType := none }, accessFlags := 0, code := some k2c1 }
def k2c2 : Code := { maxStack := 5, maxLocals := 3, code := prog_8_method_3_code, exceptionTable := #[], attributes := #[] }
def k2m2 : Method := { name := "next", desc := "()J", sig := { parameters := [], returnType := some .long }, accessFlags := 0, code := some k2c2 }
def k2c3 : Code := { maxStack := 3, maxLocals := 1, code := prog_8_method_4_code, exceptionTable := #[], attributes := #[] }
def k2m3 : Method := { name := "reset", desc := "()V", sig := { parameters := [], returnType := none }, accessFlags := 0, code := some k2c3 }
/-- com/example/nabu/nabu/relay/Backoff -/
def k2 : Class := { plain "com/example/nabu/nabu/relay/Backoff" (some 0) with
  accessFlags := 32
  interfaces := #[]
  cf := some (fileOf pool2 1 #[] #[{ accessFlags := 0, nameIndex := 9, descriptorIndex := 15, attributes := #[] }, { accessFlags := 0, nameIndex := 9, descriptorIndex := 10, attributes := #[] }, { accessFlags := 0, nameIndex := 39, descriptorIndex := 40, attributes := #[] }, { accessFlags := 0, nameIndex := 41, descriptorIndex := 15, attributes := #[] }] 32 12 #[] #[{ accessFlags := 26, nameIndex := 34, descriptorIndex := 19, attributes := #[] }, { accessFlags := 26, nameIndex := 36, descriptorIndex := 19, attributes := #[] }, { accessFlags := 18, nameIndex := 18, descriptorIndex := 19, attributes := #[] }, { accessFlags := 18, nameIndex := 22, descriptorIndex := 19, attributes := #[] }, { accessFlags := 2, nameIndex := 25, descriptorIndex := 19, attributes := #[] }])
  fields := #[{ name := "FIRST_WAIT_MILLIS", type := .long, accessFlags := 26, slot := 0, constantValue := 0 }, { name := "LAST_WAIT_MILLIS", type := .long, accessFlags := 26, slot := 1, constantValue := 0 }, { name := "firstWaitMillis", type := .long, accessFlags := 18, slot := 0, constantValue := 0 }, { name := "lastWaitMillis", type := .long, accessFlags := 18, slot := 1, constantValue := 0 }, { name := "nextWaitMillis", type := .long, accessFlags := 2, slot := 2, constantValue := 0 }]
  methods := #[k2m0, k2m1, k2m2, k2m3]
  instanceTypes := #[.long, .long, .long]
  staticTypes := #[.long, .long]
  resolved := Array.replicate 44 none
  statics := none }

def pool3 : Array CpInfo := pool [(1, .class_ 2), (0, u "java/lang/Math"), (1, .class_ 6), (1, u "java/lang/Object"), (0, u "<init>"), (0, u "()V"), (89, .class_ 100), (1, u "java/lang/Math$RandomNumberGeneratorHolder"), (20, u "(JJ)J"), (50, u "negativeZeroFloatBits"), (0, u "J"), (2, u "negativeZeroDoubleBits"), (24, u "min"), (43, u "$assertionsDisabled"), (0, u "Z"), (91, u "twoToTheDoubleScaleDown"), (0, u "D"), (4, u "twoToTheDoubleScaleUp"), (9, u "E"), (3, u "PI"), (2, u "TAU"), (2, u "DEGREES_TO_RADIANS"), (0, u "RADIANS_TO_DEGREES")] 94

def k3m0 : Method := { name := "<init>", desc := "()V", sig := { parameters := [], returnType := none }, accessFlags := 2, code := none }
def k3c1 : Code := { maxStack := 4, maxLocals := 4, code := jdk_29_method_70_code, exceptionTable := #[], attributes := #[] }
def k3m1 : Method := { name := "min", desc := "(JJ)J", sig := { parameters := [.long, .long], returnType := some .long }, accessFlags := 9, code := some k3c1 }
/-- java/lang/Math -/
def k3 : Class := { plain "java/lang/Math" (some 0) with
  accessFlags := 49
  interfaces := #[]
  cf := some (fileOf pool3 1 #[.nestMembers #[98]] #[{ accessFlags := 2, nameIndex := 7, descriptorIndex := 8, attributes := #[] }, { accessFlags := 9, nameIndex := 201, descriptorIndex := 121, attributes := #[] }] 49 4 #[] #[{ accessFlags := 25, nameIndex := 354, descriptorIndex := 339, attributes := #[] }, { accessFlags := 25, nameIndex := 358, descriptorIndex := 339, attributes := #[] }, { accessFlags := 25, nameIndex := 361, descriptorIndex := 339, attributes := #[] }, { accessFlags := 26, nameIndex := 364, descriptorIndex := 339, attributes := #[] }, { accessFlags := 26, nameIndex := 365, descriptorIndex := 339, attributes := #[] }, { accessFlags := 26, nameIndex := 172, descriptorIndex := 173, attributes := #[] }, { accessFlags := 26, nameIndex := 176, descriptorIndex := 173, attributes := #[] }, { accessFlags := 8, nameIndex := 344, descriptorIndex := 339, attributes := #[] }, { accessFlags := 8, nameIndex := 338, descriptorIndex := 339, attributes := #[] }, { accessFlags := 4120, nameIndex := 245, descriptorIndex := 246, attributes := #[] }])
  fields := #[{ name := "E", type := .double, accessFlags := 25, slot := 0, constantValue := 0 }, { name := "PI", type := .double, accessFlags := 25, slot := 1, constantValue := 0 }, { name := "TAU", type := .double, accessFlags := 25, slot := 2, constantValue := 0 }, { name := "DEGREES_TO_RADIANS", type := .double, accessFlags := 26, slot := 3, constantValue := 0 }, { name := "RADIANS_TO_DEGREES", type := .double, accessFlags := 26, slot := 4, constantValue := 0 }, { name := "negativeZeroFloatBits", type := .long, accessFlags := 26, slot := 5, constantValue := 0 }, { name := "negativeZeroDoubleBits", type := .long, accessFlags := 26, slot := 6, constantValue := 0 }, { name := "twoToTheDoubleScaleUp", type := .double, accessFlags := 8, slot := 7, constantValue := 0 }, { name := "twoToTheDoubleScaleDown", type := .double, accessFlags := 8, slot := 8, constantValue := 0 }, { name := "$assertionsDisabled", type := .boolean, accessFlags := 4120, slot := 9, constantValue := 0 }]
  methods := #[k3m0, k3m1]
  instanceTypes := #[]
  staticTypes := #[.double, .double, .double, .double, .double, .long, .long, .double, .double, .boolean]
  resolved := Array.replicate 460 none
  statics := none }

def pool4 : Array CpInfo := pool [(1, u "java/lang/Cloneable"), (0, .class_ 1), (0, u "java/lang/Object"), (0, .class_ 3)] 3

/-- java/lang/Cloneable -/
def k4 : Class := { plain "java/lang/Cloneable" (some 0) with
  accessFlags := 1537
  interfaces := #[]
  cf := some (fileOf pool4 2 #[] #[] 1537 4 #[] #[])
  fields := #[]
  methods := #[]
  instanceTypes := #[]
  staticTypes := #[]
  resolved := Array.replicate 8 none
  statics := none }

def pool5 : Array CpInfo := pool [(1, u "java/io/Serializable"), (0, .class_ 1), (0, u "java/lang/Object"), (0, .class_ 3)] 3

/-- java/io/Serializable -/
def k5 : Class := { plain "java/io/Serializable" (some 0) with
  accessFlags := 1537
  interfaces := #[]
  cf := some (fileOf pool5 2 #[] #[] 1537 4 #[] #[])
  fields := #[]
  methods := #[]
  instanceTypes := #[]
  staticTypes := #[]
  resolved := Array.replicate 8 none
  statics := none }

/-- the primitive byte -/
def k6 : Class := { plain "byte" none with kind := .primitive 'B', accessFlags := 0x411 }
/-- [B -/
def k7 : Class := { plain "[B" (some 0) with kind := .array 6 .byte, interfaces := #[4, 5], accessFlags := 1041 }

/-- the primitive int -/
def k8 : Class := { plain "int" none with kind := .primitive 'I', accessFlags := 0x411 }
/-- [I -/
def k9 : Class := { plain "[I" (some 0) with kind := .array 8 .int, interfaces := #[4, 5], accessFlags := 1041 }

def heap : Heap := #[]
def classes : Array Class := #[k0, k1, k2, k3, k4, k5, k6, k7, k8, k9]
def interned : List (Array UInt16 × Addr) := []
def slotsUsed : Nat := 0
def theMethod : MethodId := ⟨1, 2⟩
def args0 : Array Value := #[.long 5, .long 70]
def aboutOver (below : List Frame) : State where
  vm := { classes := classes, interned := interned.toArray }
  heap := heap
  slotsUsed := slotsUsed
  threads := #[{ frames := .invoking theMethod args0 :: below }]
def below0 : List Frame := [.native { method := ⟨0, 0⟩, args := #[] }]
def about1 : State := aboutOver below0
def p0 : Program := .bare "" "" ""
def e0 : Env := launch0.env 0 0 0
theorem w_frames : about1.frames = Frame.invoking theMethod args0 :: below0 := rfl
set_option maxRecDepth 65536 in
theorem w_args : argsFit about1.vm theMethod args0 = true := by decide +kernel
set_option maxRecDepth 65536 in
theorem w_heap : heapFits about1 = true := by decide +kernel
set_option maxRecDepth 65536 in
theorem w_runnable : about1.curStatus? = some .runnable := by decide +kernel
set_option maxRecDepth 65536 in
theorem w_alone : about1.alone = true := by decide +kernel
set_option maxRecDepth 65536 in
theorem w_named : about1.methodNamed? x = some theMethod := by decide +kernel
set_option maxRecDepth 65536 in
theorem w_hears : about1.hears theMethod below0 = true := by decide +kernel
set_option maxRecDepth 65536 in
theorem w_ripe : about1.ripe theMethod args0 below0 = true := by decide +kernel
theorem w_running : about1.status = .running := rfl
set_option maxRecDepth 65536 in
theorem w_room : about1.hasRoom e0.platform room_1 = true :=
  launch0.hasRoom_least _ room_1 (by decide +kernel) (by decide +kernel) (by decide +kernel) (by decide +kernel) (by decide +kernel) (by decide +kernel)
theorem allAtoms_all (ts : List Jvm.Cond) (a : Array Jvm.Value) (st : Jvm.State) : (allAtoms ts).before a st = ts.all (fun c => c.before a st) := by
  induction ts with
  | nil => rfl
  | cons c t ih =>
    show (Jvm.Cond.and c (allAtoms t)).before a st = _
    rw [Jvm.Cond.before_and, ih, List.all_cons]
def words1 : List Jvm.Cond := Jvm.Cond.code x code maxLocals ret :: tables_1
/-- a 'code' word, met by the world's own term for the bytes: nothing is compared byte by byte -/
theorem code_word {y : MethodName} {bytes : ByteArray} {mx : Nat} {rt : Option FieldType} {a : Array Value} {s : State} {m : MethodId} {meth : Method} {c : Code} (h1 : s.methodNamed? y = some m) (h2 : s.vm.method? m = some meth) (h3 : meth.code = some c) (h4 : c.code = bytes)
    (h5 : (c.maxLocals == mx && c.exceptionTable.isEmpty && decide (c.maxStack ≤ mostOperands) && decide (meth.sig.returnType = rt) && !meth.locks && decide (parseMethodDescriptor y.desc = some meth.sig)) = true) : (Jvm.Cond.code y bytes mx rt).before a s = true := by
  simp only [Bool.and_eq_true, beq_iff_eq, Bool.not_eq_true', decide_eq_true_eq] at h5
  obtain ⟨⟨⟨⟨⟨g1, g2⟩, g3⟩, g4⟩, g5⟩, g6⟩ := h5
  simp [Cond.before, Cond.holds, Cond.value, h1, h2, h3, h4, g1, g2, g3, g4, g5, g6]
def isCode : Jvm.Cond → Bool
  | .code _ _ _ _ => true
  | _ => false
theorem all_split {L : List Jvm.Cond} {P : Jvm.Cond → Bool} (h1 : L.all (fun c => isCode c || P c) = true) (h2 : ∀ c ∈ L.filter isCode, P c = true) : L.all P = true := by
  refine List.all_eq_true.mpr fun c hc => ?_
  have h := List.all_eq_true.mp h1 c hc
  rcases Bool.eq_false_or_eq_true (isCode c) with hi | hi
  · exact h2 c (List.mem_filter.mpr ⟨hc, hi⟩)
  · simpa [hi] using h
set_option maxRecDepth 65536 in
theorem w_c0 : (Jvm.Cond.code x code maxLocals ret).before args0 about1 = true := code_word (m := ⟨1, 2⟩) (meth := k1m2) (c := k1c2) (by decide +kernel) rfl rfl rfl (by decide +kernel)
set_option maxRecDepth 65536 in
theorem w_c1 : (Jvm.Cond.code ({ cls := "com/example/nabu/nabu/relay/Backoff", name := "<init>", desc := "(JJ)V" } : Jvm.MethodName) prog_8_method_2_code (5 : Nat) (Option.none : Option Jvm.ClassFile.FieldType)).before args0 about1 = true := code_word (m := ⟨2, 1⟩) (meth := k2m1) (c := k2c1) (by decide +kernel) rfl rfl rfl (by decide +kernel)
set_option maxRecDepth 65536 in
theorem w_c2 : (Jvm.Cond.code ({ cls := "java/lang/Object", name := "<init>", desc := "()V" } : Jvm.MethodName) object_method_1_code (1 : Nat) (Option.none : Option Jvm.ClassFile.FieldType)).before args0 about1 = true := code_word (m := ⟨0, 0⟩) (meth := k0m0) (c := k0c0) (by decide +kernel) rfl rfl rfl (by decide +kernel)
set_option maxRecDepth 65536 in
theorem w_c3 : (Jvm.Cond.code ({ cls := "com/example/nabu/nabu/relay/Backoff", name := "next", desc := "()J" } : Jvm.MethodName) prog_8_method_3_code (3 : Nat) (Option.some Jvm.ClassFile.FieldType.long)).before args0 about1 = true := code_word (m := ⟨2, 2⟩) (meth := k2m2) (c := k2c2) (by decide +kernel) rfl rfl rfl (by decide +kernel)
set_option maxRecDepth 65536 in
theorem w_c4 : (Jvm.Cond.code ({ cls := "java/lang/Math", name := "min", desc := "(JJ)J" } : Jvm.MethodName) jdk_29_method_70_code (4 : Nat) (Option.some Jvm.ClassFile.FieldType.long)).before args0 about1 = true := code_word (m := ⟨3, 1⟩) (meth := k3m1) (c := k3c1) (by decide +kernel) rfl rfl rfl (by decide +kernel)
set_option maxRecDepth 65536 in
theorem w_c5 : (Jvm.Cond.code ({ cls := "com/example/nabu/nabu/relay/Backoff", name := "reset", desc := "()V" } : Jvm.MethodName) prog_8_method_4_code (1 : Nat) (Option.none : Option Jvm.ClassFile.FieldType)).before args0 about1 = true := code_word (m := ⟨2, 3⟩) (meth := k2m3) (c := k2c3) (by decide +kernel) rfl rfl rfl (by decide +kernel)
set_option maxRecDepth 65536 in
theorem w_c6 : (Jvm.Cond.code ({ cls := "com/example/nabu/nabu/relay/BackoffNextPinLaw", name := "expected", desc := "(JJI)J" } : Jvm.MethodName) method_2_code (5 : Nat) (Option.some Jvm.ClassFile.FieldType.long)).before args0 about1 = true := code_word (m := ⟨1, 1⟩) (meth := k1m1) (c := k1c1) (by decide +kernel) rfl rfl rfl (by decide +kernel)
def codes1 : List Jvm.Cond := [Jvm.Cond.code x code maxLocals ret, Jvm.Cond.code ({ cls := "com/example/nabu/nabu/relay/Backoff", name := "<init>", desc := "(JJ)V" } : Jvm.MethodName) prog_8_method_2_code (5 : Nat) (Option.none : Option Jvm.ClassFile.FieldType), Jvm.Cond.code ({ cls := "java/lang/Object", name := "<init>", desc := "()V" } : Jvm.MethodName) object_method_1_code (1 : Nat) (Option.none : Option Jvm.ClassFile.FieldType), Jvm.Cond.code ({ cls := "com/example/nabu/nabu/relay/Backoff", name := "next", desc := "()J" } : Jvm.MethodName) prog_8_method_3_code (3 : Nat) (Option.some Jvm.ClassFile.FieldType.long), Jvm.Cond.code ({ cls := "java/lang/Math", name := "min", desc := "(JJ)J" } : Jvm.MethodName) jdk_29_method_70_code (4 : Nat) (Option.some Jvm.ClassFile.FieldType.long), Jvm.Cond.code ({ cls := "com/example/nabu/nabu/relay/Backoff", name := "reset", desc := "()V" } : Jvm.MethodName) prog_8_method_4_code (1 : Nat) (Option.none : Option Jvm.ClassFile.FieldType), Jvm.Cond.code ({ cls := "com/example/nabu/nabu/relay/BackoffNextPinLaw", name := "expected", desc := "(JJI)J" } : Jvm.MethodName) method_2_code (5 : Nat) (Option.some Jvm.ClassFile.FieldType.long)]
set_option maxRecDepth 65536 in
theorem codes_eq : words1.filter isCode = codes1 := rfl
theorem w_codes : ∀ c ∈ words1.filter isCode, c.before args0 about1 = true := by
  rw [codes_eq]
  intro c hc
  simp only [codes1, List.mem_cons, List.not_mem_nil, or_false] at hc
  rcases hc with rfl | rfl | rfl | rfl | rfl | rfl | rfl
  · exact w_c0
  · exact w_c1
  · exact w_c2
  · exact w_c3
  · exact w_c4
  · exact w_c5
  · exact w_c6
set_option maxRecDepth 65536 in
theorem w_t1 : (words1.take 24).all (fun c => isCode c || c.before args0 about1) = true := by decide +kernel
set_option maxRecDepth 65536 in
theorem w_t2 : (words1.drop 24).all (fun c => isCode c || c.before args0 about1) = true := by decide +kernel
theorem w_tables : (allAtoms (Jvm.Cond.code x code maxLocals ret :: tables_1)).before args0 about1 = true := by
  rw [allAtoms_all]
  show words1.all (fun c => c.before args0 about1) = true
  refine all_split ?_ w_codes
  rw [← List.take_append_drop 24 words1, List.all_append, w_t1, w_t2]
  rfl
set_option maxRecDepth 65536 in
theorem w_case : (Jvm.Cond.and given_1 narrow_1).before args0 about1 = true := by decide +kernel
theorem w_applies : (headSpec (Jvm.Cond.code x code maxLocals ret :: tables_1) room_1).applies x e0.platform about1 = true :=
  (Spec.applies_iff w_frames).mpr ⟨w_running, w_runnable, w_alone, w_named, w_hears, w_ripe, w_room, w_tables⟩
theorem atStart : AtStart classFile x code maxLocals ret World_1 tables_1 room_1 Calls_1 rest_1 Pre_1 launch0 p0 e0 about1 theMethod args0 below0 :=
  ⟨lists_1, trivial, launch0.admits_env _ _ _, launch0.least_env, fairChoices_fair.cas, fairChoices_fair.clock, w_frames, w_args, w_heap, w_applies, trivial, trivial, w_case⟩
end start1
theorem witness_1 : WitnessClaimed_1 := ⟨start1.p0, start1.e0, start1.about1, start1.theMethod, start1.args0, start1.below0, start1.atStart⟩
end Jvm.Pilot.@@N@@
