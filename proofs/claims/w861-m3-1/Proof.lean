import JvmDerived
import JvmDerived.Pilot.@@N@@Statement
import JvmDerived.Pilot.@@N@@Code
set_option linter.unusedVariables false
set_option linter.unusedSimpArgs false
namespace Jvm.RoadKit
open Sem ClassFile Op Lib Jvm.Stand Jvm.Free Jvm.LawKit
section New
variable {p : Program} {l : Launch} {e : Env} {R : Room} {s : State} {m : MethodId} {args : Array Value} {below : List Frame} {meth : Method} {c : Code} {T : State} {locs : List Loc} {cells slots : Nat}
theorem retI (X : Stand p l e R s m args below meth c T locs cells slots) (hx : p.tables.exec = Jvm.exec) {pc : Nat} {Ls : Array Slot} {z : Int32} {rest : List Value} (hret : meth.sig.returnType = some .int) (hd : decode c.code pc = .ok (.ireturn, 1)) {fs : List Frame}
    (hl : ∀ (f : JFrame) (acts : List Action), f.method = m → f.locked = none → f.entered = [] → (doReturn e (T.setTop f) acts (some (.int z))).1 = T.setFrames fs) : Steps p.tables e below (T.setTop (mkF m pc Ls (.int z :: rest))) (T.setFrames fs) := by
  have hm' : T.vm.method? m = some meth := X.method'
  have hn : narrow .int (.int z) = .int z := rfl
  show Steps p.tables e below (T.setTop { method := m, pc := pc, locals := Ls, stack := _ :: rest, locked := none }) _
  jvm_step X.here [X.here.top, hx, hd, hm', hret, hn]
  first | (intro acts; rw [hl _ acts rfl rfl rfl]) | rw [hl _ _ rfl rfl rfl]
  exact Steps.refl _
theorem own_nar01 {z : Int32} (h : z = 0 ∨ z = 1) : narrow .boolean (.int z) = .int z := by rcases h with rfl | rfl <;> rfl
theorem own_fit01 {z : Int32} (h : z = 0 ∨ z = 1) : fits .boolean (.int z) = true := by rcases h with rfl | rfl <;> decide
theorem own_retZ (X : Stand p l e R s m args below meth c T locs cells slots) (hx : p.tables.exec = Jvm.exec) {pc : Nat} {Ls : Array Slot} {z : Int32} {rest : List Value} (hret : meth.sig.returnType = some .boolean) (hz : z = 0 ∨ z = 1) (hd : decode c.code pc = .ok (.ireturn, 1)) {fs : List Frame}
    (hl : ∀ (f : JFrame) (acts : List Action), f.method = m → f.locked = none → f.entered = [] → (doReturn e (T.setTop f) acts (some (.int z))).1 = T.setFrames fs) : Steps p.tables e below (T.setTop (mkF m pc Ls (.int z :: rest))) (T.setFrames fs) := by
  have hm' : T.vm.method? m = some meth := X.method'
  have hn : narrow .boolean (.int z) = .int z := own_nar01 hz
  show Steps p.tables e below (T.setTop { method := m, pc := pc, locals := Ls, stack := _ :: rest, locked := none }) _
  jvm_step X.here [X.here.top, hx, hd, hm', hret, hn]
  first | (intro acts; rw [hl _ acts rfl rfl rfl]) | rw [hl _ _ rfl rfl rfl]
  exact Steps.refl _
end New
section Own
variable {Z : State} {h h' : Heap} {C n d : String} {w : Value} {a : Addr}
theorem own_sta_keep (F : Sta Z h C n d w) {ws : List Addr} (K : Keep h h' ws) (q : ∀ (st : Addr) (cell : Cell), h[st]? = some cell → cell.vm.isStatics = true → st ∉ ws) : Sta Z h' C n d w := by
  obtain ⟨cf, i, k, f, st, cell, h1, h2, h3, h4, h5, h6, h7⟩ := F
  exact ⟨cf, i, k, f, st, cell, h1, h2, h3, h4, K.2.1 st cell h5 (q st cell h5 h6), h6, h7⟩
theorem own_eqf {args : Array Value} {s : State} {t : Term} {C n d : String} {k : Int32} {x : Addr} (h : (Jvm.Cond.eq (.field t C n d) (.int k)).value args s none s [] = some true) (ht : t.eval args s none [] s = some (.ref x)) : s.fieldOf? x C n d = some (.int k) := by
  simp only [Cond.value, Term.eval, ht, Option.bind_eq_bind, Option.bind_some] at h
  cases hv : s.fieldOf? x C n d with
  | none => simp [hv] at h
  | some v => cases v <;> simp_all
theorem own_eqL {args : Array Value} {s : State} {t : Term} {k : Int64} (h : (Jvm.Cond.eq t (.long k)).value args s none s [] = some true) : t.eval args s none [] s = some (.long k) := by
  simp only [Cond.value, Term.eval] at h
  cases hv : t.eval args s none [] s with
  | none => simp [hv] at h
  | some v => cases v <;> simp_all
theorem own_eqI {args : Array Value} {s : State} {t : Term} {k : Int32} (h : (Jvm.Cond.eq t (.int k)).value args s none s [] = some true) : t.eval args s none [] s = some (.int k) := by
  simp only [Cond.value, Term.eval] at h
  cases hv : t.eval args s none [] s with
  | none => simp [hv] at h
  | some v => cases v <;> simp_all
theorem own_sta_keep0 (F : Sta Z h C n d w) (K : Keep h h' []) : Sta Z h' C n d w := own_sta_keep F K fun _ _ _ _ q => nomatch q
theorem own_sta_keep1 (F : Sta Z h C n d w) (K : Keep h h' [a]) {C' : String} (E : Exa Z h a C') : Sta Z h' C n d w := own_sta_keep F K fun st cell h1 h2 q => by
  cases List.mem_singleton.mp q
  obtain ⟨c2, _, g1, -, -, g4, -⟩ := E
  cases h1.symm.trans g1
  rw [h2] at g4; cases g4
end Own
end Jvm.RoadKit
namespace Jvm.Pilot.@@N@@
open Jvm Jvm.ClassFile Sem Op Lib Jvm.Free Jvm.Stand Jvm.LawKit Jvm.RoadKit Bundle Jvm.Pilot.@@N@@.Jvm.D
def own_k (p : Int32) : Int32 := (p &&& 2147483647) % 3
def own_holds (q : Int64) (b : Int32) : Int32 := if q &&& (b - 1).toInt64 = 0 then 1 else 0
theorem own_al (q m u : Int64) (k : Nat) (hk : k = 0 ∨ k = 3 ∨ k = 5) (hm : m.toBitVec.toNat = 2 ^ k - 1) (hu : u.toInt = (2 ^ k : Nat)) : q &&& m = 0 ↔ q - q / u * u = 0 := by
  have a := c_maskL q m k (by omega) hm
  have b := c_lrem q u _ hu
  have z : (0 : Int64).toInt = 0 := by decide
  have e1 : q &&& m = 0 ↔ (q &&& m).toInt = 0 := ⟨fun h => by rw [h]; exact z, fun h => Int64.toInt_inj.mp (by rw [h, z])⟩
  have e2 : q - q / u * u = 0 ↔ (q - q / u * u).toInt = 0 := ⟨fun h => by rw [h]; exact z, fun h => Int64.toInt_inj.mp (by rw [h, z])⟩
  rw [e1, e2, a]
  rcases Int.lt_or_le q.toInt 0 with h | h
  · rw [b.2 h]; rcases hk with rfl | rfl | rfl <;> omega
  · rw [b.1 h]
theorem own_law (q : Int64) (b : Int32) (u : Int64) (k : Nat) (hk : k = 0 ∨ k = 3 ∨ k = 5) (hm : (b - 1).toInt64.toBitVec.toNat = 2 ^ k - 1) (hu : u.toInt = (2 ^ k : Nat)) : own_holds q b = if q - q / u * u = 0 then 1 else 0 := by
  unfold own_holds
  simp only [own_al q _ u k hk hm hu]
theorem d_prog_26_method_6_code_0 : decode prog_26_method_6_code 0 = .ok (.lload_n 1, 1) := by decide +kernel
theorem d_prog_26_method_6_code_1 : decode prog_26_method_6_code 1 = .ok (.aload_n 0, 1) := by decide +kernel
theorem d_prog_26_method_6_code_2 : decode prog_26_method_6_code 2 = .ok (.getfield 32, 3) := by decide +kernel
theorem d_prog_26_method_6_code_5 : decode prog_26_method_6_code 5 = .ok (.iconst 1, 1) := by decide +kernel
theorem d_prog_26_method_6_code_6 : decode prog_26_method_6_code 6 = .ok (.isub, 1) := by decide +kernel
theorem d_prog_26_method_6_code_7 : decode prog_26_method_6_code 7 = .ok (.i2l, 1) := by decide +kernel
theorem d_prog_26_method_6_code_8 : decode prog_26_method_6_code 8 = .ok (.land, 1) := by decide +kernel
theorem d_prog_26_method_6_code_9 : decode prog_26_method_6_code 9 = .ok (.lconst 0, 1) := by decide +kernel
theorem d_prog_26_method_6_code_10 : decode prog_26_method_6_code 10 = .ok (.lcmp, 1) := by decide +kernel
theorem d_prog_26_method_6_code_11 : decode prog_26_method_6_code 11 = .ok (.ifCond .ne 7, 3) := by decide +kernel
theorem d_prog_26_method_6_code_14 : decode prog_26_method_6_code 14 = .ok (.iconst 1, 1) := by decide +kernel
theorem d_prog_26_method_6_code_15 : decode prog_26_method_6_code 15 = .ok (.goto 4, 3) := by decide +kernel
theorem d_prog_26_method_6_code_19 : decode prog_26_method_6_code 19 = .ok (.ireturn, 1) := by decide +kernel
theorem d_prog_26_method_6_code_18 : decode prog_26_method_6_code 18 = .ok (.iconst 0, 1) := by decide +kernel
def Q_rmH (Z : State) (a1 : Addr) (q2 : Int64) (p3 : Int32) (h0 : Heap) (n0 : Nat) (v : Option Value) (h : Heap) (L : List Loc) : Prop := v = some (.int (own_holds q2 p3)) ∧ Fr n0 L ∧ h = h0
theorem pn_0 : plainName "org/lexpack/codec/Codec$Alignment" = true := by first | (simp [plainName, overriddenIn]; done) | decide +kernel
theorem ef_0 (m : MethodId) (x0 : Addr) (x1 : Int64) : entryFrame m #[(.ref x0), (.long x1)] 3 = mkF m 0 #[.val (.ref x0), .val (.long x1), .second] [] := by first | (simp [entryFrame, mkF, argsToLocals, Value.category]; done) | rfl
set_option maxRecDepth 65536 in
set_option maxHeartbeats 40000000 in
theorem rmH_t (l : Launch) (Z : State) (a0 : Array Value) (hw : ∀ d ∈ tables_1, d.before a0 Z = true) (ws : List Jvm.Cond) (a1 : Addr) (q2 : Int64) (p3 : Int32) (h0 : Heap) (n0 : Nat) (Z0 : n0 ≤ h0.size) (F_bits_a1 : Fld Z h0 a1 "org/lexpack/codec/Codec$Alignment" "bits" "I" (.int p3)) (hc11 : (q2 &&& ((p3 - (1 : Int32)).toInt64)) = (0 : Int64)) (hres : (own_holds q2 p3) = (1 : Int32)) :
    MetFree l (⟨"org/lexpack/codec/Codec$Alignment", "holds", "(J)Z"⟩ : MethodName) (head1 (Jvm.Cond.code (⟨"org/lexpack/codec/Codec$Alignment", "holds", "(J)Z"⟩ : MethodName) prog_26_method_6_code 3 (some .boolean) :: ws) ({ frames := 0, cells := 0, slots := 0, locals := 0 } : Room)) (fun a U => a = #[(.ref a1), (.long q2)] ∧ Z.Warmed39 U.vm ∧ U.heap = h0) (fun _ _ _ _ _ => True) (fun _ U o U' => ∃ v L, o = .returned v ∧ Q_rmH Z a1 q2 p3 h0 n0 v U'.heap L ∧ FrameEnd U o U' L ({ frames := 0, cells := 0, slots := 0, locals := 0 } : Room).cells ({ frames := 0, cells := 0, slots := 0, locals := 0 } : Room).slots) := by
  refine MetFree.of_bodySF (plainFor_of_name pn_0) hisR ?_
  intro p e s m args below meth c s₁ Bd hml0 hP hK
  obtain ⟨rfl, hZ, hh⟩ := hP
  have hx := Bd.exec
  have hby := Bd.bytes
  have hml : c.maxLocals = 3 := hml0
  have hown : s.vm.findClass "org/lexpack/codec/Codec$Alignment" = some m.cls := findClass_of_methodNamed Bd.named
  have hnm := (name_of_methodNamed Bd.named Bd.method).1
  have X0 : Stand p l e ({ frames := 0, cells := 0, slots := 0, locals := 0 } : Room) s m #[(.ref a1), (.long q2)] below meth c s₁ [] 0 0 := Stand.of_body Bd
  have e0 : s₁.heap = h0 := by rw [← hh, Bd.state]; rfl
  have N0 := Fr.nil n0
  have pre0 : ∀ t, Steps p.tables e below (s₁.setTop (mkF m 0 #[.val (.ref a1), .val (.long q2), .second] [])) t → Steps p.tables e below (s₁.setTop (entryFrame m #[(.ref a1), (.long q2)] 3)) t := fun t k => castTop (ef_0 m a1 q2) k
  obtain ⟨T1, X1, e1, st1⟩ := getF X0 hx hZ hown (host := "") (Or.inl (hw _ (List.mem_of_getElem? (i := 10) rfl))) Via.refl e0 F_bits_a1 (g := (mkF m 2 #[.val (.ref a1), .val (.long q2), .second] [(.ref a1), (.long q2)])) rfl rfl (hb hby d_prog_26_method_6_code_2)
  obtain ⟨fs, hr, hrun, hended, hW, hsame⟩ := X1.leave (v := some (.int (1 : Int32))) (fun h => by rw [Bd.returns] at h; cases h)
  refine ⟨_, _, pre0 _ ?_, hrun, hended, _, _, rfl, ?_, ⟨_, rfl⟩, hW, hsame.mono (by decide) (by decide)⟩
  · show Steps p.tables e below (s₁.setTop (mkF m 0 #[.val (.ref a1), .val (.long q2), .second] [])) _
    refine XS.lloadN X0.here hx rfl (hb hby d_prog_26_method_6_code_0) rfl ?_
    show Steps p.tables e below (s₁.setTop (mkF m 1 #[.val (.ref a1), .val (.long q2), .second] [(.long q2)])) _
    refine XS.aloadN X0.here hx rfl (hb hby d_prog_26_method_6_code_1) rfl rfl ?_
    show Steps p.tables e below (s₁.setTop (mkF m 2 #[.val (.ref a1), .val (.long q2), .second] [(.ref a1), (.long q2)])) _
    refine st1 _ ?_
    show Steps p.tables e below (T1.setTop (mkF m 5 #[.val (.ref a1), .val (.long q2), .second] [(.int p3), (.long q2)])) _
    refine XS.iconst X1.here hx rfl (hb hby d_prog_26_method_6_code_5) ?_
    show Steps p.tables e below (T1.setTop (mkF m 6 #[.val (.ref a1), .val (.long q2), .second] [(.int (1 : Int32)), (.int p3), (.long q2)])) _
    refine XS.isub X1.here hx rfl (hb hby d_prog_26_method_6_code_6) rfl ?_
    show Steps p.tables e below (T1.setTop (mkF m 7 #[.val (.ref a1), .val (.long q2), .second] [(.int (p3 - (1 : Int32))), (.long q2)])) _
    refine XS.i2l X1.here hx rfl (hb hby d_prog_26_method_6_code_7) rfl ?_
    show Steps p.tables e below (T1.setTop (mkF m 8 #[.val (.ref a1), .val (.long q2), .second] [(.long ((p3 - (1 : Int32)).toInt64)), (.long q2)])) _
    refine XS.land X1.here hx rfl (hb hby d_prog_26_method_6_code_8) rfl ?_
    show Steps p.tables e below (T1.setTop (mkF m 9 #[.val (.ref a1), .val (.long q2), .second] [(.long (q2 &&& ((p3 - (1 : Int32)).toInt64)))])) _
    refine XS.lconst X1.here hx rfl (hb hby d_prog_26_method_6_code_9) ?_
    show Steps p.tables e below (T1.setTop (mkF m 10 #[.val (.ref a1), .val (.long q2), .second] [(.long (0 : Int64)), (.long (q2 &&& ((p3 - (1 : Int32)).toInt64)))])) _
    refine XS.lcmp X1.here hx rfl (hb hby d_prog_26_method_6_code_10) rfl ?_
    show Steps p.tables e below (T1.setTop (mkF m 11 #[.val (.ref a1), .val (.long q2), .second] [(.int (lcmpW (q2 &&& ((p3 - (1 : Int32)).toInt64)) (0 : Int64)))])) _
    refine XS.ifNo X1.here hx rfl (hb hby d_prog_26_method_6_code_11) rfl ((if0 _ _).trans (teq ((lw_eq (q2 &&& ((p3 - (1 : Int32)).toInt64)) (0 : Int64)).mpr hc11)).2) ?_
    show Steps p.tables e below (T1.setTop (mkF m 14 #[.val (.ref a1), .val (.long q2), .second] [])) _
    refine XS.iconst X1.here hx rfl (hb hby d_prog_26_method_6_code_14) ?_
    show Steps p.tables e below (T1.setTop (mkF m 15 #[.val (.ref a1), .val (.long q2), .second] [(.int (1 : Int32))])) _
    refine XS.goto X1.here hx rfl (pc0 := 15) (pc' := 19) rfl (hb hby d_prog_26_method_6_code_15) (by decide) (by decide) ?_
    show Steps p.tables e below (T1.setTop (mkF m 19 #[.val (.ref a1), .val (.long q2), .second] [(.int (1 : Int32))])) _
    exact retN X1 hx (t := .boolean) Bd.returns (by simp) (hb hby d_prog_26_method_6_code_19) hr
  · show Q_rmH Z a1 q2 p3 h0 n0 _ T1.heap _
    rw [e1]
    exact ⟨by rw [hres], N0, rfl⟩
set_option maxRecDepth 65536 in
set_option maxHeartbeats 40000000 in
theorem rmH_f (l : Launch) (Z : State) (a0 : Array Value) (hw : ∀ d ∈ tables_1, d.before a0 Z = true) (ws : List Jvm.Cond) (a1 : Addr) (q2 : Int64) (p3 : Int32) (h0 : Heap) (n0 : Nat) (Z0 : n0 ≤ h0.size) (F_bits_a1 : Fld Z h0 a1 "org/lexpack/codec/Codec$Alignment" "bits" "I" (.int p3)) (hc11 : ¬ ((q2 &&& ((p3 - (1 : Int32)).toInt64)) = (0 : Int64))) (hres : (own_holds q2 p3) = (0 : Int32)) :
    MetFree l (⟨"org/lexpack/codec/Codec$Alignment", "holds", "(J)Z"⟩ : MethodName) (head1 (Jvm.Cond.code (⟨"org/lexpack/codec/Codec$Alignment", "holds", "(J)Z"⟩ : MethodName) prog_26_method_6_code 3 (some .boolean) :: ws) ({ frames := 0, cells := 0, slots := 0, locals := 0 } : Room)) (fun a U => a = #[(.ref a1), (.long q2)] ∧ Z.Warmed39 U.vm ∧ U.heap = h0) (fun _ _ _ _ _ => True) (fun _ U o U' => ∃ v L, o = .returned v ∧ Q_rmH Z a1 q2 p3 h0 n0 v U'.heap L ∧ FrameEnd U o U' L ({ frames := 0, cells := 0, slots := 0, locals := 0 } : Room).cells ({ frames := 0, cells := 0, slots := 0, locals := 0 } : Room).slots) := by
  refine MetFree.of_bodySF (plainFor_of_name pn_0) hisR ?_
  intro p e s m args below meth c s₁ Bd hml0 hP hK
  obtain ⟨rfl, hZ, hh⟩ := hP
  have hx := Bd.exec
  have hby := Bd.bytes
  have hml : c.maxLocals = 3 := hml0
  have hown : s.vm.findClass "org/lexpack/codec/Codec$Alignment" = some m.cls := findClass_of_methodNamed Bd.named
  have hnm := (name_of_methodNamed Bd.named Bd.method).1
  have X0 : Stand p l e ({ frames := 0, cells := 0, slots := 0, locals := 0 } : Room) s m #[(.ref a1), (.long q2)] below meth c s₁ [] 0 0 := Stand.of_body Bd
  have e0 : s₁.heap = h0 := by rw [← hh, Bd.state]; rfl
  have N0 := Fr.nil n0
  have pre0 : ∀ t, Steps p.tables e below (s₁.setTop (mkF m 0 #[.val (.ref a1), .val (.long q2), .second] [])) t → Steps p.tables e below (s₁.setTop (entryFrame m #[(.ref a1), (.long q2)] 3)) t := fun t k => castTop (ef_0 m a1 q2) k
  obtain ⟨T1, X1, e1, st1⟩ := getF X0 hx hZ hown (host := "") (Or.inl (hw _ (List.mem_of_getElem? (i := 10) rfl))) Via.refl e0 F_bits_a1 (g := (mkF m 2 #[.val (.ref a1), .val (.long q2), .second] [(.ref a1), (.long q2)])) rfl rfl (hb hby d_prog_26_method_6_code_2)
  obtain ⟨fs, hr, hrun, hended, hW, hsame⟩ := X1.leave (v := some (.int (0 : Int32))) (fun h => by rw [Bd.returns] at h; cases h)
  refine ⟨_, _, pre0 _ ?_, hrun, hended, _, _, rfl, ?_, ⟨_, rfl⟩, hW, hsame.mono (by decide) (by decide)⟩
  · show Steps p.tables e below (s₁.setTop (mkF m 0 #[.val (.ref a1), .val (.long q2), .second] [])) _
    refine XS.lloadN X0.here hx rfl (hb hby d_prog_26_method_6_code_0) rfl ?_
    show Steps p.tables e below (s₁.setTop (mkF m 1 #[.val (.ref a1), .val (.long q2), .second] [(.long q2)])) _
    refine XS.aloadN X0.here hx rfl (hb hby d_prog_26_method_6_code_1) rfl rfl ?_
    show Steps p.tables e below (s₁.setTop (mkF m 2 #[.val (.ref a1), .val (.long q2), .second] [(.ref a1), (.long q2)])) _
    refine st1 _ ?_
    show Steps p.tables e below (T1.setTop (mkF m 5 #[.val (.ref a1), .val (.long q2), .second] [(.int p3), (.long q2)])) _
    refine XS.iconst X1.here hx rfl (hb hby d_prog_26_method_6_code_5) ?_
    show Steps p.tables e below (T1.setTop (mkF m 6 #[.val (.ref a1), .val (.long q2), .second] [(.int (1 : Int32)), (.int p3), (.long q2)])) _
    refine XS.isub X1.here hx rfl (hb hby d_prog_26_method_6_code_6) rfl ?_
    show Steps p.tables e below (T1.setTop (mkF m 7 #[.val (.ref a1), .val (.long q2), .second] [(.int (p3 - (1 : Int32))), (.long q2)])) _
    refine XS.i2l X1.here hx rfl (hb hby d_prog_26_method_6_code_7) rfl ?_
    show Steps p.tables e below (T1.setTop (mkF m 8 #[.val (.ref a1), .val (.long q2), .second] [(.long ((p3 - (1 : Int32)).toInt64)), (.long q2)])) _
    refine XS.land X1.here hx rfl (hb hby d_prog_26_method_6_code_8) rfl ?_
    show Steps p.tables e below (T1.setTop (mkF m 9 #[.val (.ref a1), .val (.long q2), .second] [(.long (q2 &&& ((p3 - (1 : Int32)).toInt64)))])) _
    refine XS.lconst X1.here hx rfl (hb hby d_prog_26_method_6_code_9) ?_
    show Steps p.tables e below (T1.setTop (mkF m 10 #[.val (.ref a1), .val (.long q2), .second] [(.long (0 : Int64)), (.long (q2 &&& ((p3 - (1 : Int32)).toInt64)))])) _
    refine XS.lcmp X1.here hx rfl (hb hby d_prog_26_method_6_code_10) rfl ?_
    show Steps p.tables e below (T1.setTop (mkF m 11 #[.val (.ref a1), .val (.long q2), .second] [(.int (lcmpW (q2 &&& ((p3 - (1 : Int32)).toInt64)) (0 : Int64)))])) _
    refine XS.ifYes X1.here hx rfl (pc0 := 11) (pc' := 18) rfl (hb hby d_prog_26_method_6_code_11) rfl ((if0 _ _).trans (feq (mt (lw_eq (q2 &&& ((p3 - (1 : Int32)).toInt64)) (0 : Int64)).mp hc11)).2) (by decide) (by decide) ?_
    show Steps p.tables e below (T1.setTop (mkF m 18 #[.val (.ref a1), .val (.long q2), .second] [])) _
    refine XS.iconst X1.here hx rfl (hb hby d_prog_26_method_6_code_18) ?_
    show Steps p.tables e below (T1.setTop (mkF m 19 #[.val (.ref a1), .val (.long q2), .second] [(.int (0 : Int32))])) _
    exact retN X1 hx (t := .boolean) Bd.returns (by simp) (hb hby d_prog_26_method_6_code_19) hr
  · show Q_rmH Z a1 q2 p3 h0 n0 _ T1.heap _
    rw [e1]
    exact ⟨by rw [hres], N0, rfl⟩
theorem rmH (l : Launch) (Z : State) (a0 : Array Value) (hw : ∀ d ∈ tables_1, d.before a0 Z = true) (ws : List Jvm.Cond) (a1 : Addr) (q2 : Int64) (p3 : Int32) (h0 : Heap) (n0 : Nat) (Z0 : n0 ≤ h0.size) (F_bits_a1 : Fld Z h0 a1 "org/lexpack/codec/Codec$Alignment" "bits" "I" (.int p3)) :
    MetFree l (⟨"org/lexpack/codec/Codec$Alignment", "holds", "(J)Z"⟩ : MethodName) (head1 (Jvm.Cond.code (⟨"org/lexpack/codec/Codec$Alignment", "holds", "(J)Z"⟩ : MethodName) prog_26_method_6_code 3 (some .boolean) :: ws) ({ frames := 0, cells := 0, slots := 0, locals := 0 } : Room)) (fun a U => a = #[(.ref a1), (.long q2)] ∧ Z.Warmed39 U.vm ∧ U.heap = h0) (fun _ _ _ _ _ => True) (fun _ U o U' => ∃ v L, o = .returned v ∧ Q_rmH Z a1 q2 p3 h0 n0 v U'.heap L ∧ FrameEnd U o U' L ({ frames := 0, cells := 0, slots := 0, locals := 0 } : Room).cells ({ frames := 0, cells := 0, slots := 0, locals := 0 } : Room).slots) := by
  by_cases hc11 : (q2 &&& ((p3 - (1 : Int32)).toInt64)) = (0 : Int64)
  · skip
    exact rmH_t l Z a0 hw ws a1 q2 p3 h0 n0 Z0 F_bits_a1 hc11 (by unfold own_holds; simp [hc11])
  · skip
    exact rmH_f l Z a0 hw ws a1 q2 p3 h0 n0 Z0 F_bits_a1 hc11 (by unfold own_holds; simp [hc11])
theorem pd_0 : parseMethodDescriptor "(J)Z" = some ⟨[.long], some .boolean⟩ := by decide +kernel
def Q_rm0 (Z : State) (p1 : Int32) (q2 : Int64) (c_BYTE : Addr) (c_WORD : Addr) (c_BIT : Addr) (h0 : Heap) (n0 : Nat) (v : Option Value) (h : Heap) (L : List Loc) : Prop := v = some (.int (1 : Int32)) ∧ Fr n0 L ∧ h = h0
theorem pn_1 : plainName "org/lexpack/codec/AlignmentHoldsPinLaw" = true := by first | (simp [plainName, overriddenIn]; done) | decide +kernel
theorem ef_1 (m : MethodId) (x0 : Int32) (x1 : Int64) : entryFrame m #[(.int x0), (.long x1)] maxLocals = mkF m 0 #[.val (.int x0), .val (.long x1), .second, .unset, .unset, .unset, .unset, .unset] [] := by first | (simp [entryFrame, mkF, argsToLocals, Value.category, maxLocals]; done) | rfl
set_option maxRecDepth 65536 in
set_option maxHeartbeats 40000000 in
theorem rm0_ttt (l : Launch) (Z : State) (a0 : Array Value) (hw : ∀ d ∈ tables_1, d.before a0 Z = true) (ws : List Jvm.Cond) (p1 : Int32) (q2 : Int64) (c_BYTE : Addr) (c_WORD : Addr) (c_BIT : Addr) (h0 : Heap) (n0 : Nat) (Z0 : n0 ≤ h0.size) (S_BYTE_ : Sta Z h0 "org/lexpack/codec/Codec$Alignment" "BYTE" "Lorg/lexpack/codec/Codec$Alignment;" (.ref c_BYTE)) (E_c_BYTE : Exa Z h0 c_BYTE "org/lexpack/codec/Codec$Alignment") (F_bits_c_BYTE : Fld Z h0 c_BYTE "org/lexpack/codec/Codec$Alignment" "bits" "I" (.int (8 : Int32))) (S_WORD_ : Sta Z h0 "org/lexpack/codec/Codec$Alignment" "WORD" "Lorg/lexpack/codec/Codec$Alignment;" (.ref c_WORD)) (E_c_WORD : Exa Z h0 c_WORD "org/lexpack/codec/Codec$Alignment") (F_bits_c_WORD : Fld Z h0 c_WORD "org/lexpack/codec/Codec$Alignment" "bits" "I" (.int (32 : Int32))) (S_BIT_ : Sta Z h0 "org/lexpack/codec/Codec$Alignment" "BIT" "Lorg/lexpack/codec/Codec$Alignment;" (.ref c_BIT)) (E_c_BIT : Exa Z h0 c_BIT "org/lexpack/codec/Codec$Alignment") (F_bits_c_BIT : Fld Z h0 c_BIT "org/lexpack/codec/Codec$Alignment" "bits" "I" (.int (1 : Int32))) (hc8 : (own_k p1) = (0 : Int32)) (hc56 : (q2 - (q2 / (8 : Int64)) * (8 : Int64)) = (0 : Int64)) (hc74 : (own_holds q2 (8 : Int32)) = (1 : Int32)) :
    MetFree l x (head1 (Jvm.Cond.code x code maxLocals ret :: ws) room_1) (fun a U => a = #[(.int p1), (.long q2)] ∧ Z.Warmed39 U.vm ∧ U.heap = h0) (fun _ _ _ _ _ => True) (fun _ U o U' => ∃ v L, o = .returned v ∧ Q_rm0 Z p1 q2 c_BYTE c_WORD c_BIT h0 n0 v U'.heap L ∧ FrameEnd U o U' L room_1.cells room_1.slots) := by
  refine MetFree.of_bodySF (plainFor_of_name pn_1) hisR ?_
  intro p e s m args below meth c s₁ Bd hml0 hP hK
  obtain ⟨rfl, hZ, hh⟩ := hP
  have hx := Bd.exec
  have hby := Bd.bytes
  have hml : c.maxLocals = 8 := hml0
  have hown : s.vm.findClass "org/lexpack/codec/AlignmentHoldsPinLaw" = some m.cls := findClass_of_methodNamed Bd.named
  have hnm := (name_of_methodNamed Bd.named Bd.method).1
  have X0 : Stand p l e room_1 s m #[(.int p1), (.long q2)] below meth c s₁ [] 0 0 := Stand.of_body Bd
  have e0 : s₁.heap = h0 := by rw [← hh, Bd.state]; rfl
  have N0 := Fr.nil n0
  have pre0 : ∀ t, Steps p.tables e below (s₁.setTop (mkF m 0 #[.val (.int p1), .val (.long q2), .second, .unset, .unset, .unset, .unset, .unset] [])) t → Steps p.tables e below (s₁.setTop (entryFrame m #[(.int p1), (.long q2)] maxLocals)) t := fun t k => castTop (ef_1 m p1 q2) k
  obtain ⟨T1, X1, e1, st1⟩ := getS2 X0 hx hZ hown (host := "") (Or.inl (hw _ (List.mem_of_getElem? (i := 1) rfl))) Via.refl e0 S_BYTE_ (g := (mkF m 11 #[.val (.int p1), .val (.long q2), .second, .val (.int (own_k p1)), .unset, .unset, .unset, .unset] [])) rfl (hb hby at_11)
  obtain ⟨cq2, kq2, q2a, q2b, q2c⟩ := isOf hZ e1 E_c_BYTE
  obtain ⟨_, _, ⟨T2, L2, k2, n2⟩, -, X2, ⟨Lc2, hQ2, l2, y2, z2⟩, st2⟩ := X1.virtualBack hx (y := (⟨"org/lexpack/codec/Codec$Alignment", "holds", "(J)Z"⟩ : MethodName)) (z := (⟨"org/lexpack/codec/Codec$Alignment", "holds", "(J)Z"⟩ : MethodName)) hown (mvT hZ (hw _ (List.mem_of_getElem? (i := 5) rfl))) (mvT hZ (hw _ (List.mem_of_getElem? (i := 6) rfl))) (notFace_of_selects (args := #[]) (mvT hZ (hw _ (List.mem_of_getElem? (i := 8) rfl)))) (mvT hZ (hw _ (List.mem_of_getElem? (i := 8) rfl))) (mvT hZ (hw _ (List.mem_of_getElem? (i := 7) rfl))) (by decide) (backOf (W := 0) (rmH l Z a0 hw [] c_BYTE q2 (8 : Int32) h0 n0 Z0 F_bits_c_BYTE) hZ (hw _ (List.mem_of_getElem? (i := 9) rfl)) (hw _ (List.mem_of_getElem? (i := 2) rfl)) (by decide) (by decide)) q2a q2c (g := (mkF m 69 #[.val (.int p1), .val (.long q2), .second, .val (.int (own_k p1)), .val (.ref c_BYTE), .val (.long (8 : Int64)), .second, .val (.int (1 : Int32))] [(.long q2), (.ref c_BYTE)])) rfl (by rw [hml]; rfl) (Steps.refl _) (argsL := [(.long q2)]) (rest := []) (lenOf pd_0 rfl) rfl (by show 2 * 0 + _ ≤ _; exact Nat.le_of_eq rfl) (hb hby at_69) (fun _ _ => ⟨rfl, e1, (by decide : 0 + 0 ≤ _), (by decide : 0 + 0 ≤ _)⟩)
  dsimp only [Pt.U, Pt.locs, Pt.cells, Pt.slots] at X2 l2 y2 z2 st2 hQ2
  subst l2 y2 z2
  obtain ⟨rfl, N2q, e2⟩ := hQ2
  have N2 := Fr.app N0 N2q
  obtain ⟨fs, hr, hrun, hended, hW, hsame⟩ := X2.leave (v := some (.int (1 : Int32))) (fun h => by rw [Bd.returns] at h; cases h)
  refine ⟨_, _, pre0 _ ?_, hrun, hended, _, _, rfl, ?_, ⟨_, rfl⟩, hW, hsame.mono (by decide) (by decide)⟩
  · show Steps p.tables e below (s₁.setTop (mkF m 0 #[.val (.int p1), .val (.long q2), .second, .unset, .unset, .unset, .unset, .unset] [])) _
    refine XS.iloadN X0.here hx rfl (hb hby at_0) rfl ?_
    show Steps p.tables e below (s₁.setTop (mkF m 1 #[.val (.int p1), .val (.long q2), .second, .unset, .unset, .unset, .unset, .unset] [(.int p1)])) _
    refine X0.ldcI hx hown (mvT hZ (hw _ (List.mem_of_getElem? (i := 0) rfl))) (g := (mkF m 1 #[.val (.int p1), .val (.long q2), .second, .unset, .unset, .unset, .unset, .unset] [(.int p1)])) rfl (hb hby at_1) ?_
    show Steps p.tables e below (s₁.setTop (mkF m 3 #[.val (.int p1), .val (.long q2), .second, .unset, .unset, .unset, .unset, .unset] [(.int (2147483647 : Int32)), (.int p1)])) _
    refine XS.iand X0.here hx rfl (hb hby at_3) rfl ?_
    show Steps p.tables e below (s₁.setTop (mkF m 4 #[.val (.int p1), .val (.long q2), .second, .unset, .unset, .unset, .unset, .unset] [(.int (p1 &&& (2147483647 : Int32)))])) _
    refine XS.iconst X0.here hx rfl (hb hby at_4) ?_
    show Steps p.tables e below (s₁.setTop (mkF m 5 #[.val (.int p1), .val (.long q2), .second, .unset, .unset, .unset, .unset, .unset] [(.int (3 : Int32)), (.int (p1 &&& (2147483647 : Int32)))])) _
    refine iremM X0 hx rfl (hb hby at_5) rfl (by decide) ?_
    show Steps p.tables e below (s₁.setTop (mkF m 6 #[.val (.int p1), .val (.long q2), .second, .unset, .unset, .unset, .unset, .unset] [(.int (own_k p1))])) _
    refine XS.istoreN X0.here hx rfl (hb hby at_6) rfl (l' := #[.val (.int p1), .val (.long q2), .second, .val (.int (own_k p1)), .unset, .unset, .unset, .unset]) rfl ?_
    show Steps p.tables e below (s₁.setTop (mkF m 7 #[.val (.int p1), .val (.long q2), .second, .val (.int (own_k p1)), .unset, .unset, .unset, .unset] [])) _
    refine XS.iloadN X0.here hx rfl (hb hby at_7) rfl ?_
    show Steps p.tables e below (s₁.setTop (mkF m 8 #[.val (.int p1), .val (.long q2), .second, .val (.int (own_k p1)), .unset, .unset, .unset, .unset] [(.int (own_k p1))])) _
    refine XS.ifNo X0.here hx rfl (hb hby at_8) rfl ((if0 _ _).trans (teq hc8).2) ?_
    show Steps p.tables e below (s₁.setTop (mkF m 11 #[.val (.int p1), .val (.long q2), .second, .val (.int (own_k p1)), .unset, .unset, .unset, .unset] [])) _
    refine st1 _ ?_
    show Steps p.tables e below (T1.setTop (mkF m 14 #[.val (.int p1), .val (.long q2), .second, .val (.int (own_k p1)), .unset, .unset, .unset, .unset] [(.ref c_BYTE)])) _
    refine XS.astore X1.here hx rfl (hb hby at_14) rfl rfl (l' := #[.val (.int p1), .val (.long q2), .second, .val (.int (own_k p1)), .val (.ref c_BYTE), .unset, .unset, .unset]) rfl ?_
    show Steps p.tables e below (T1.setTop (mkF m 16 #[.val (.int p1), .val (.long q2), .second, .val (.int (own_k p1)), .val (.ref c_BYTE), .unset, .unset, .unset] [])) _
    refine X1.ldc2J hx hown (mvT hZ (hw _ (List.mem_of_getElem? (i := 4) rfl))) (g := (mkF m 16 #[.val (.int p1), .val (.long q2), .second, .val (.int (own_k p1)), .val (.ref c_BYTE), .unset, .unset, .unset] [])) rfl (hb hby at_16) ?_
    show Steps p.tables e below (T1.setTop (mkF m 19 #[.val (.int p1), .val (.long q2), .second, .val (.int (own_k p1)), .val (.ref c_BYTE), .unset, .unset, .unset] [(.long (8 : Int64))])) _
    refine XS.lstore X1.here hx rfl (hb hby at_19) rfl (l' := #[.val (.int p1), .val (.long q2), .second, .val (.int (own_k p1)), .val (.ref c_BYTE), .val (.long (8 : Int64)), .second, .unset]) rfl ?_
    show Steps p.tables e below (T1.setTop (mkF m 21 #[.val (.int p1), .val (.long q2), .second, .val (.int (own_k p1)), .val (.ref c_BYTE), .val (.long (8 : Int64)), .second, .unset] [])) _
    refine XS.goto X1.here hx rfl (pc0 := 21) (pc' := 50) rfl (hb hby at_21) (by decide) (by decide) ?_
    show Steps p.tables e below (T1.setTop (mkF m 50 #[.val (.int p1), .val (.long q2), .second, .val (.int (own_k p1)), .val (.ref c_BYTE), .val (.long (8 : Int64)), .second, .unset] [])) _
    refine XS.lloadN X1.here hx rfl (hb hby at_50) rfl ?_
    show Steps p.tables e below (T1.setTop (mkF m 51 #[.val (.int p1), .val (.long q2), .second, .val (.int (own_k p1)), .val (.ref c_BYTE), .val (.long (8 : Int64)), .second, .unset] [(.long q2)])) _
    refine XS.lload X1.here hx rfl (hb hby at_51) rfl ?_
    show Steps p.tables e below (T1.setTop (mkF m 53 #[.val (.int p1), .val (.long q2), .second, .val (.int (own_k p1)), .val (.ref c_BYTE), .val (.long (8 : Int64)), .second, .unset] [(.long (8 : Int64)), (.long q2)])) _
    refine XS.lrem X1.here hx rfl (hb hby at_53) rfl (by decide) ?_
    show Steps p.tables e below (T1.setTop (mkF m 54 #[.val (.int p1), .val (.long q2), .second, .val (.int (own_k p1)), .val (.ref c_BYTE), .val (.long (8 : Int64)), .second, .unset] [(.long (q2 - (q2 / (8 : Int64)) * (8 : Int64)))])) _
    refine XS.lconst X1.here hx rfl (hb hby at_54) ?_
    show Steps p.tables e below (T1.setTop (mkF m 55 #[.val (.int p1), .val (.long q2), .second, .val (.int (own_k p1)), .val (.ref c_BYTE), .val (.long (8 : Int64)), .second, .unset] [(.long (0 : Int64)), (.long (q2 - (q2 / (8 : Int64)) * (8 : Int64)))])) _
    refine XS.lcmp X1.here hx rfl (hb hby at_55) rfl ?_
    show Steps p.tables e below (T1.setTop (mkF m 56 #[.val (.int p1), .val (.long q2), .second, .val (.int (own_k p1)), .val (.ref c_BYTE), .val (.long (8 : Int64)), .second, .unset] [(.int (lcmpW (q2 - (q2 / (8 : Int64)) * (8 : Int64)) (0 : Int64)))])) _
    refine XS.ifNo X1.here hx rfl (hb hby at_56) rfl ((if0 _ _).trans (teq ((lw_eq (q2 - (q2 / (8 : Int64)) * (8 : Int64)) (0 : Int64)).mpr hc56)).2) ?_
    show Steps p.tables e below (T1.setTop (mkF m 59 #[.val (.int p1), .val (.long q2), .second, .val (.int (own_k p1)), .val (.ref c_BYTE), .val (.long (8 : Int64)), .second, .unset] [])) _
    refine XS.iconst X1.here hx rfl (hb hby at_59) ?_
    show Steps p.tables e below (T1.setTop (mkF m 60 #[.val (.int p1), .val (.long q2), .second, .val (.int (own_k p1)), .val (.ref c_BYTE), .val (.long (8 : Int64)), .second, .unset] [(.int (1 : Int32))])) _
    refine XS.goto X1.here hx rfl (pc0 := 60) (pc' := 64) rfl (hb hby at_60) (by decide) (by decide) ?_
    show Steps p.tables e below (T1.setTop (mkF m 64 #[.val (.int p1), .val (.long q2), .second, .val (.int (own_k p1)), .val (.ref c_BYTE), .val (.long (8 : Int64)), .second, .unset] [(.int (1 : Int32))])) _
    refine XS.istore X1.here hx rfl (hb hby at_64) rfl (l' := #[.val (.int p1), .val (.long q2), .second, .val (.int (own_k p1)), .val (.ref c_BYTE), .val (.long (8 : Int64)), .second, .val (.int (1 : Int32))]) rfl ?_
    show Steps p.tables e below (T1.setTop (mkF m 66 #[.val (.int p1), .val (.long q2), .second, .val (.int (own_k p1)), .val (.ref c_BYTE), .val (.long (8 : Int64)), .second, .val (.int (1 : Int32))] [])) _
    refine XS.aload X1.here hx rfl (hb hby at_66) rfl rfl ?_
    show Steps p.tables e below (T1.setTop (mkF m 68 #[.val (.int p1), .val (.long q2), .second, .val (.int (own_k p1)), .val (.ref c_BYTE), .val (.long (8 : Int64)), .second, .val (.int (1 : Int32))] [(.ref c_BYTE)])) _
    refine XS.lloadN X1.here hx rfl (hb hby at_68) rfl ?_
    show Steps p.tables e below (T1.setTop (mkF m 69 #[.val (.int p1), .val (.long q2), .second, .val (.int (own_k p1)), .val (.ref c_BYTE), .val (.long (8 : Int64)), .second, .val (.int (1 : Int32))] [(.long q2), (.ref c_BYTE)])) _
    refine st2.trans ?_
    show Steps p.tables e below (T2.setTop (mkF m 72 #[.val (.int p1), .val (.long q2), .second, .val (.int (own_k p1)), .val (.ref c_BYTE), .val (.long (8 : Int64)), .second, .val (.int (1 : Int32))] [(.int (own_holds q2 (8 : Int32)))])) _
    refine XS.iload X2.here hx rfl (hb hby at_72) rfl ?_
    show Steps p.tables e below (T2.setTop (mkF m 74 #[.val (.int p1), .val (.long q2), .second, .val (.int (own_k p1)), .val (.ref c_BYTE), .val (.long (8 : Int64)), .second, .val (.int (1 : Int32))] [(.int (1 : Int32)), (.int (own_holds q2 (8 : Int32)))])) _
    refine XS.icmpNo X2.here hx rfl (hb hby at_74) rfl (teq hc74).2 ?_
    show Steps p.tables e below (T2.setTop (mkF m 77 #[.val (.int p1), .val (.long q2), .second, .val (.int (own_k p1)), .val (.ref c_BYTE), .val (.long (8 : Int64)), .second, .val (.int (1 : Int32))] [])) _
    refine XS.iconst X2.here hx rfl (hb hby at_77) ?_
    show Steps p.tables e below (T2.setTop (mkF m 78 #[.val (.int p1), .val (.long q2), .second, .val (.int (own_k p1)), .val (.ref c_BYTE), .val (.long (8 : Int64)), .second, .val (.int (1 : Int32))] [(.int (1 : Int32))])) _
    refine XS.goto X2.here hx rfl (pc0 := 78) (pc' := 82) rfl (hb hby at_78) (by decide) (by decide) ?_
    show Steps p.tables e below (T2.setTop (mkF m 82 #[.val (.int p1), .val (.long q2), .second, .val (.int (own_k p1)), .val (.ref c_BYTE), .val (.long (8 : Int64)), .second, .val (.int (1 : Int32))] [(.int (1 : Int32))])) _
    exact retN X2 hx (t := .boolean) Bd.returns (by simp) (hb hby at_82) hr
  · show Q_rm0 Z p1 q2 c_BYTE c_WORD c_BIT h0 n0 _ T2.heap _
    rw [e2]
    exact ⟨rfl, N2, rfl⟩
set_option maxRecDepth 65536 in
set_option maxHeartbeats 40000000 in
theorem rm0_tft (l : Launch) (Z : State) (a0 : Array Value) (hw : ∀ d ∈ tables_1, d.before a0 Z = true) (ws : List Jvm.Cond) (p1 : Int32) (q2 : Int64) (c_BYTE : Addr) (c_WORD : Addr) (c_BIT : Addr) (h0 : Heap) (n0 : Nat) (Z0 : n0 ≤ h0.size) (S_BYTE_ : Sta Z h0 "org/lexpack/codec/Codec$Alignment" "BYTE" "Lorg/lexpack/codec/Codec$Alignment;" (.ref c_BYTE)) (E_c_BYTE : Exa Z h0 c_BYTE "org/lexpack/codec/Codec$Alignment") (F_bits_c_BYTE : Fld Z h0 c_BYTE "org/lexpack/codec/Codec$Alignment" "bits" "I" (.int (8 : Int32))) (S_WORD_ : Sta Z h0 "org/lexpack/codec/Codec$Alignment" "WORD" "Lorg/lexpack/codec/Codec$Alignment;" (.ref c_WORD)) (E_c_WORD : Exa Z h0 c_WORD "org/lexpack/codec/Codec$Alignment") (F_bits_c_WORD : Fld Z h0 c_WORD "org/lexpack/codec/Codec$Alignment" "bits" "I" (.int (32 : Int32))) (S_BIT_ : Sta Z h0 "org/lexpack/codec/Codec$Alignment" "BIT" "Lorg/lexpack/codec/Codec$Alignment;" (.ref c_BIT)) (E_c_BIT : Exa Z h0 c_BIT "org/lexpack/codec/Codec$Alignment") (F_bits_c_BIT : Fld Z h0 c_BIT "org/lexpack/codec/Codec$Alignment" "bits" "I" (.int (1 : Int32))) (hc8 : (own_k p1) = (0 : Int32)) (hc56 : ¬ ((q2 - (q2 / (8 : Int64)) * (8 : Int64)) = (0 : Int64))) (hc74 : (own_holds q2 (8 : Int32)) = (0 : Int32)) :
    MetFree l x (head1 (Jvm.Cond.code x code maxLocals ret :: ws) room_1) (fun a U => a = #[(.int p1), (.long q2)] ∧ Z.Warmed39 U.vm ∧ U.heap = h0) (fun _ _ _ _ _ => True) (fun _ U o U' => ∃ v L, o = .returned v ∧ Q_rm0 Z p1 q2 c_BYTE c_WORD c_BIT h0 n0 v U'.heap L ∧ FrameEnd U o U' L room_1.cells room_1.slots) := by
  refine MetFree.of_bodySF (plainFor_of_name pn_1) hisR ?_
  intro p e s m args below meth c s₁ Bd hml0 hP hK
  obtain ⟨rfl, hZ, hh⟩ := hP
  have hx := Bd.exec
  have hby := Bd.bytes
  have hml : c.maxLocals = 8 := hml0
  have hown : s.vm.findClass "org/lexpack/codec/AlignmentHoldsPinLaw" = some m.cls := findClass_of_methodNamed Bd.named
  have hnm := (name_of_methodNamed Bd.named Bd.method).1
  have X0 : Stand p l e room_1 s m #[(.int p1), (.long q2)] below meth c s₁ [] 0 0 := Stand.of_body Bd
  have e0 : s₁.heap = h0 := by rw [← hh, Bd.state]; rfl
  have N0 := Fr.nil n0
  have pre0 : ∀ t, Steps p.tables e below (s₁.setTop (mkF m 0 #[.val (.int p1), .val (.long q2), .second, .unset, .unset, .unset, .unset, .unset] [])) t → Steps p.tables e below (s₁.setTop (entryFrame m #[(.int p1), (.long q2)] maxLocals)) t := fun t k => castTop (ef_1 m p1 q2) k
  obtain ⟨T1, X1, e1, st1⟩ := getS2 X0 hx hZ hown (host := "") (Or.inl (hw _ (List.mem_of_getElem? (i := 1) rfl))) Via.refl e0 S_BYTE_ (g := (mkF m 11 #[.val (.int p1), .val (.long q2), .second, .val (.int (own_k p1)), .unset, .unset, .unset, .unset] [])) rfl (hb hby at_11)
  obtain ⟨cq2, kq2, q2a, q2b, q2c⟩ := isOf hZ e1 E_c_BYTE
  obtain ⟨_, _, ⟨T2, L2, k2, n2⟩, -, X2, ⟨Lc2, hQ2, l2, y2, z2⟩, st2⟩ := X1.virtualBack hx (y := (⟨"org/lexpack/codec/Codec$Alignment", "holds", "(J)Z"⟩ : MethodName)) (z := (⟨"org/lexpack/codec/Codec$Alignment", "holds", "(J)Z"⟩ : MethodName)) hown (mvT hZ (hw _ (List.mem_of_getElem? (i := 5) rfl))) (mvT hZ (hw _ (List.mem_of_getElem? (i := 6) rfl))) (notFace_of_selects (args := #[]) (mvT hZ (hw _ (List.mem_of_getElem? (i := 8) rfl)))) (mvT hZ (hw _ (List.mem_of_getElem? (i := 8) rfl))) (mvT hZ (hw _ (List.mem_of_getElem? (i := 7) rfl))) (by decide) (backOf (W := 0) (rmH l Z a0 hw [] c_BYTE q2 (8 : Int32) h0 n0 Z0 F_bits_c_BYTE) hZ (hw _ (List.mem_of_getElem? (i := 9) rfl)) (hw _ (List.mem_of_getElem? (i := 2) rfl)) (by decide) (by decide)) q2a q2c (g := (mkF m 69 #[.val (.int p1), .val (.long q2), .second, .val (.int (own_k p1)), .val (.ref c_BYTE), .val (.long (8 : Int64)), .second, .val (.int (0 : Int32))] [(.long q2), (.ref c_BYTE)])) rfl (by rw [hml]; rfl) (Steps.refl _) (argsL := [(.long q2)]) (rest := []) (lenOf pd_0 rfl) rfl (by show 2 * 0 + _ ≤ _; exact Nat.le_of_eq rfl) (hb hby at_69) (fun _ _ => ⟨rfl, e1, (by decide : 0 + 0 ≤ _), (by decide : 0 + 0 ≤ _)⟩)
  dsimp only [Pt.U, Pt.locs, Pt.cells, Pt.slots] at X2 l2 y2 z2 st2 hQ2
  subst l2 y2 z2
  obtain ⟨rfl, N2q, e2⟩ := hQ2
  have N2 := Fr.app N0 N2q
  obtain ⟨fs, hr, hrun, hended, hW, hsame⟩ := X2.leave (v := some (.int (1 : Int32))) (fun h => by rw [Bd.returns] at h; cases h)
  refine ⟨_, _, pre0 _ ?_, hrun, hended, _, _, rfl, ?_, ⟨_, rfl⟩, hW, hsame.mono (by decide) (by decide)⟩
  · show Steps p.tables e below (s₁.setTop (mkF m 0 #[.val (.int p1), .val (.long q2), .second, .unset, .unset, .unset, .unset, .unset] [])) _
    refine XS.iloadN X0.here hx rfl (hb hby at_0) rfl ?_
    show Steps p.tables e below (s₁.setTop (mkF m 1 #[.val (.int p1), .val (.long q2), .second, .unset, .unset, .unset, .unset, .unset] [(.int p1)])) _
    refine X0.ldcI hx hown (mvT hZ (hw _ (List.mem_of_getElem? (i := 0) rfl))) (g := (mkF m 1 #[.val (.int p1), .val (.long q2), .second, .unset, .unset, .unset, .unset, .unset] [(.int p1)])) rfl (hb hby at_1) ?_
    show Steps p.tables e below (s₁.setTop (mkF m 3 #[.val (.int p1), .val (.long q2), .second, .unset, .unset, .unset, .unset, .unset] [(.int (2147483647 : Int32)), (.int p1)])) _
    refine XS.iand X0.here hx rfl (hb hby at_3) rfl ?_
    show Steps p.tables e below (s₁.setTop (mkF m 4 #[.val (.int p1), .val (.long q2), .second, .unset, .unset, .unset, .unset, .unset] [(.int (p1 &&& (2147483647 : Int32)))])) _
    refine XS.iconst X0.here hx rfl (hb hby at_4) ?_
    show Steps p.tables e below (s₁.setTop (mkF m 5 #[.val (.int p1), .val (.long q2), .second, .unset, .unset, .unset, .unset, .unset] [(.int (3 : Int32)), (.int (p1 &&& (2147483647 : Int32)))])) _
    refine iremM X0 hx rfl (hb hby at_5) rfl (by decide) ?_
    show Steps p.tables e below (s₁.setTop (mkF m 6 #[.val (.int p1), .val (.long q2), .second, .unset, .unset, .unset, .unset, .unset] [(.int (own_k p1))])) _
    refine XS.istoreN X0.here hx rfl (hb hby at_6) rfl (l' := #[.val (.int p1), .val (.long q2), .second, .val (.int (own_k p1)), .unset, .unset, .unset, .unset]) rfl ?_
    show Steps p.tables e below (s₁.setTop (mkF m 7 #[.val (.int p1), .val (.long q2), .second, .val (.int (own_k p1)), .unset, .unset, .unset, .unset] [])) _
    refine XS.iloadN X0.here hx rfl (hb hby at_7) rfl ?_
    show Steps p.tables e below (s₁.setTop (mkF m 8 #[.val (.int p1), .val (.long q2), .second, .val (.int (own_k p1)), .unset, .unset, .unset, .unset] [(.int (own_k p1))])) _
    refine XS.ifNo X0.here hx rfl (hb hby at_8) rfl ((if0 _ _).trans (teq hc8).2) ?_
    show Steps p.tables e below (s₁.setTop (mkF m 11 #[.val (.int p1), .val (.long q2), .second, .val (.int (own_k p1)), .unset, .unset, .unset, .unset] [])) _
    refine st1 _ ?_
    show Steps p.tables e below (T1.setTop (mkF m 14 #[.val (.int p1), .val (.long q2), .second, .val (.int (own_k p1)), .unset, .unset, .unset, .unset] [(.ref c_BYTE)])) _
    refine XS.astore X1.here hx rfl (hb hby at_14) rfl rfl (l' := #[.val (.int p1), .val (.long q2), .second, .val (.int (own_k p1)), .val (.ref c_BYTE), .unset, .unset, .unset]) rfl ?_
    show Steps p.tables e below (T1.setTop (mkF m 16 #[.val (.int p1), .val (.long q2), .second, .val (.int (own_k p1)), .val (.ref c_BYTE), .unset, .unset, .unset] [])) _
    refine X1.ldc2J hx hown (mvT hZ (hw _ (List.mem_of_getElem? (i := 4) rfl))) (g := (mkF m 16 #[.val (.int p1), .val (.long q2), .second, .val (.int (own_k p1)), .val (.ref c_BYTE), .unset, .unset, .unset] [])) rfl (hb hby at_16) ?_
    show Steps p.tables e below (T1.setTop (mkF m 19 #[.val (.int p1), .val (.long q2), .second, .val (.int (own_k p1)), .val (.ref c_BYTE), .unset, .unset, .unset] [(.long (8 : Int64))])) _
    refine XS.lstore X1.here hx rfl (hb hby at_19) rfl (l' := #[.val (.int p1), .val (.long q2), .second, .val (.int (own_k p1)), .val (.ref c_BYTE), .val (.long (8 : Int64)), .second, .unset]) rfl ?_
    show Steps p.tables e below (T1.setTop (mkF m 21 #[.val (.int p1), .val (.long q2), .second, .val (.int (own_k p1)), .val (.ref c_BYTE), .val (.long (8 : Int64)), .second, .unset] [])) _
    refine XS.goto X1.here hx rfl (pc0 := 21) (pc' := 50) rfl (hb hby at_21) (by decide) (by decide) ?_
    show Steps p.tables e below (T1.setTop (mkF m 50 #[.val (.int p1), .val (.long q2), .second, .val (.int (own_k p1)), .val (.ref c_BYTE), .val (.long (8 : Int64)), .second, .unset] [])) _
    refine XS.lloadN X1.here hx rfl (hb hby at_50) rfl ?_
    show Steps p.tables e below (T1.setTop (mkF m 51 #[.val (.int p1), .val (.long q2), .second, .val (.int (own_k p1)), .val (.ref c_BYTE), .val (.long (8 : Int64)), .second, .unset] [(.long q2)])) _
    refine XS.lload X1.here hx rfl (hb hby at_51) rfl ?_
    show Steps p.tables e below (T1.setTop (mkF m 53 #[.val (.int p1), .val (.long q2), .second, .val (.int (own_k p1)), .val (.ref c_BYTE), .val (.long (8 : Int64)), .second, .unset] [(.long (8 : Int64)), (.long q2)])) _
    refine XS.lrem X1.here hx rfl (hb hby at_53) rfl (by decide) ?_
    show Steps p.tables e below (T1.setTop (mkF m 54 #[.val (.int p1), .val (.long q2), .second, .val (.int (own_k p1)), .val (.ref c_BYTE), .val (.long (8 : Int64)), .second, .unset] [(.long (q2 - (q2 / (8 : Int64)) * (8 : Int64)))])) _
    refine XS.lconst X1.here hx rfl (hb hby at_54) ?_
    show Steps p.tables e below (T1.setTop (mkF m 55 #[.val (.int p1), .val (.long q2), .second, .val (.int (own_k p1)), .val (.ref c_BYTE), .val (.long (8 : Int64)), .second, .unset] [(.long (0 : Int64)), (.long (q2 - (q2 / (8 : Int64)) * (8 : Int64)))])) _
    refine XS.lcmp X1.here hx rfl (hb hby at_55) rfl ?_
    show Steps p.tables e below (T1.setTop (mkF m 56 #[.val (.int p1), .val (.long q2), .second, .val (.int (own_k p1)), .val (.ref c_BYTE), .val (.long (8 : Int64)), .second, .unset] [(.int (lcmpW (q2 - (q2 / (8 : Int64)) * (8 : Int64)) (0 : Int64)))])) _
    refine XS.ifYes X1.here hx rfl (pc0 := 56) (pc' := 63) rfl (hb hby at_56) rfl ((if0 _ _).trans (feq (mt (lw_eq (q2 - (q2 / (8 : Int64)) * (8 : Int64)) (0 : Int64)).mp hc56)).2) (by decide) (by decide) ?_
    show Steps p.tables e below (T1.setTop (mkF m 63 #[.val (.int p1), .val (.long q2), .second, .val (.int (own_k p1)), .val (.ref c_BYTE), .val (.long (8 : Int64)), .second, .unset] [])) _
    refine XS.iconst X1.here hx rfl (hb hby at_63) ?_
    show Steps p.tables e below (T1.setTop (mkF m 64 #[.val (.int p1), .val (.long q2), .second, .val (.int (own_k p1)), .val (.ref c_BYTE), .val (.long (8 : Int64)), .second, .unset] [(.int (0 : Int32))])) _
    refine XS.istore X1.here hx rfl (hb hby at_64) rfl (l' := #[.val (.int p1), .val (.long q2), .second, .val (.int (own_k p1)), .val (.ref c_BYTE), .val (.long (8 : Int64)), .second, .val (.int (0 : Int32))]) rfl ?_
    show Steps p.tables e below (T1.setTop (mkF m 66 #[.val (.int p1), .val (.long q2), .second, .val (.int (own_k p1)), .val (.ref c_BYTE), .val (.long (8 : Int64)), .second, .val (.int (0 : Int32))] [])) _
    refine XS.aload X1.here hx rfl (hb hby at_66) rfl rfl ?_
    show Steps p.tables e below (T1.setTop (mkF m 68 #[.val (.int p1), .val (.long q2), .second, .val (.int (own_k p1)), .val (.ref c_BYTE), .val (.long (8 : Int64)), .second, .val (.int (0 : Int32))] [(.ref c_BYTE)])) _
    refine XS.lloadN X1.here hx rfl (hb hby at_68) rfl ?_
    show Steps p.tables e below (T1.setTop (mkF m 69 #[.val (.int p1), .val (.long q2), .second, .val (.int (own_k p1)), .val (.ref c_BYTE), .val (.long (8 : Int64)), .second, .val (.int (0 : Int32))] [(.long q2), (.ref c_BYTE)])) _
    refine st2.trans ?_
    show Steps p.tables e below (T2.setTop (mkF m 72 #[.val (.int p1), .val (.long q2), .second, .val (.int (own_k p1)), .val (.ref c_BYTE), .val (.long (8 : Int64)), .second, .val (.int (0 : Int32))] [(.int (own_holds q2 (8 : Int32)))])) _
    refine XS.iload X2.here hx rfl (hb hby at_72) rfl ?_
    show Steps p.tables e below (T2.setTop (mkF m 74 #[.val (.int p1), .val (.long q2), .second, .val (.int (own_k p1)), .val (.ref c_BYTE), .val (.long (8 : Int64)), .second, .val (.int (0 : Int32))] [(.int (0 : Int32)), (.int (own_holds q2 (8 : Int32)))])) _
    refine XS.icmpNo X2.here hx rfl (hb hby at_74) rfl (teq hc74).2 ?_
    show Steps p.tables e below (T2.setTop (mkF m 77 #[.val (.int p1), .val (.long q2), .second, .val (.int (own_k p1)), .val (.ref c_BYTE), .val (.long (8 : Int64)), .second, .val (.int (0 : Int32))] [])) _
    refine XS.iconst X2.here hx rfl (hb hby at_77) ?_
    show Steps p.tables e below (T2.setTop (mkF m 78 #[.val (.int p1), .val (.long q2), .second, .val (.int (own_k p1)), .val (.ref c_BYTE), .val (.long (8 : Int64)), .second, .val (.int (0 : Int32))] [(.int (1 : Int32))])) _
    refine XS.goto X2.here hx rfl (pc0 := 78) (pc' := 82) rfl (hb hby at_78) (by decide) (by decide) ?_
    show Steps p.tables e below (T2.setTop (mkF m 82 #[.val (.int p1), .val (.long q2), .second, .val (.int (own_k p1)), .val (.ref c_BYTE), .val (.long (8 : Int64)), .second, .val (.int (0 : Int32))] [(.int (1 : Int32))])) _
    exact retN X2 hx (t := .boolean) Bd.returns (by simp) (hb hby at_82) hr
  · show Q_rm0 Z p1 q2 c_BYTE c_WORD c_BIT h0 n0 _ T2.heap _
    rw [e2]
    exact ⟨rfl, N2, rfl⟩
set_option maxRecDepth 65536 in
set_option maxHeartbeats 40000000 in
theorem rm0_fttt (l : Launch) (Z : State) (a0 : Array Value) (hw : ∀ d ∈ tables_1, d.before a0 Z = true) (ws : List Jvm.Cond) (p1 : Int32) (q2 : Int64) (c_BYTE : Addr) (c_WORD : Addr) (c_BIT : Addr) (h0 : Heap) (n0 : Nat) (Z0 : n0 ≤ h0.size) (S_BYTE_ : Sta Z h0 "org/lexpack/codec/Codec$Alignment" "BYTE" "Lorg/lexpack/codec/Codec$Alignment;" (.ref c_BYTE)) (E_c_BYTE : Exa Z h0 c_BYTE "org/lexpack/codec/Codec$Alignment") (F_bits_c_BYTE : Fld Z h0 c_BYTE "org/lexpack/codec/Codec$Alignment" "bits" "I" (.int (8 : Int32))) (S_WORD_ : Sta Z h0 "org/lexpack/codec/Codec$Alignment" "WORD" "Lorg/lexpack/codec/Codec$Alignment;" (.ref c_WORD)) (E_c_WORD : Exa Z h0 c_WORD "org/lexpack/codec/Codec$Alignment") (F_bits_c_WORD : Fld Z h0 c_WORD "org/lexpack/codec/Codec$Alignment" "bits" "I" (.int (32 : Int32))) (S_BIT_ : Sta Z h0 "org/lexpack/codec/Codec$Alignment" "BIT" "Lorg/lexpack/codec/Codec$Alignment;" (.ref c_BIT)) (E_c_BIT : Exa Z h0 c_BIT "org/lexpack/codec/Codec$Alignment") (F_bits_c_BIT : Fld Z h0 c_BIT "org/lexpack/codec/Codec$Alignment" "bits" "I" (.int (1 : Int32))) (hc8 : ¬ ((own_k p1) = (0 : Int32))) (hc26 : (own_k p1) = (1 : Int32)) (hc56 : (q2 - (q2 / (32 : Int64)) * (32 : Int64)) = (0 : Int64)) (hc74 : (own_holds q2 (32 : Int32)) = (1 : Int32)) :
    MetFree l x (head1 (Jvm.Cond.code x code maxLocals ret :: ws) room_1) (fun a U => a = #[(.int p1), (.long q2)] ∧ Z.Warmed39 U.vm ∧ U.heap = h0) (fun _ _ _ _ _ => True) (fun _ U o U' => ∃ v L, o = .returned v ∧ Q_rm0 Z p1 q2 c_BYTE c_WORD c_BIT h0 n0 v U'.heap L ∧ FrameEnd U o U' L room_1.cells room_1.slots) := by
  refine MetFree.of_bodySF (plainFor_of_name pn_1) hisR ?_
  intro p e s m args below meth c s₁ Bd hml0 hP hK
  obtain ⟨rfl, hZ, hh⟩ := hP
  have hx := Bd.exec
  have hby := Bd.bytes
  have hml : c.maxLocals = 8 := hml0
  have hown : s.vm.findClass "org/lexpack/codec/AlignmentHoldsPinLaw" = some m.cls := findClass_of_methodNamed Bd.named
  have hnm := (name_of_methodNamed Bd.named Bd.method).1
  have X0 : Stand p l e room_1 s m #[(.int p1), (.long q2)] below meth c s₁ [] 0 0 := Stand.of_body Bd
  have e0 : s₁.heap = h0 := by rw [← hh, Bd.state]; rfl
  have N0 := Fr.nil n0
  have pre0 : ∀ t, Steps p.tables e below (s₁.setTop (mkF m 0 #[.val (.int p1), .val (.long q2), .second, .unset, .unset, .unset, .unset, .unset] [])) t → Steps p.tables e below (s₁.setTop (entryFrame m #[(.int p1), (.long q2)] maxLocals)) t := fun t k => castTop (ef_1 m p1 q2) k
  obtain ⟨T1, X1, e1, st1⟩ := getS2 X0 hx hZ hown (host := "") (Or.inl (hw _ (List.mem_of_getElem? (i := 12) rfl))) Via.refl e0 S_WORD_ (g := (mkF m 29 #[.val (.int p1), .val (.long q2), .second, .val (.int (own_k p1)), .unset, .unset, .unset, .unset] [])) rfl (hb hby at_29)
  obtain ⟨cq2, kq2, q2a, q2b, q2c⟩ := isOf hZ e1 E_c_WORD
  obtain ⟨_, _, ⟨T2, L2, k2, n2⟩, -, X2, ⟨Lc2, hQ2, l2, y2, z2⟩, st2⟩ := X1.virtualBack hx (y := (⟨"org/lexpack/codec/Codec$Alignment", "holds", "(J)Z"⟩ : MethodName)) (z := (⟨"org/lexpack/codec/Codec$Alignment", "holds", "(J)Z"⟩ : MethodName)) hown (mvT hZ (hw _ (List.mem_of_getElem? (i := 5) rfl))) (mvT hZ (hw _ (List.mem_of_getElem? (i := 6) rfl))) (notFace_of_selects (args := #[]) (mvT hZ (hw _ (List.mem_of_getElem? (i := 8) rfl)))) (mvT hZ (hw _ (List.mem_of_getElem? (i := 8) rfl))) (mvT hZ (hw _ (List.mem_of_getElem? (i := 7) rfl))) (by decide) (backOf (W := 0) (rmH l Z a0 hw [] c_WORD q2 (32 : Int32) h0 n0 Z0 F_bits_c_WORD) hZ (hw _ (List.mem_of_getElem? (i := 9) rfl)) (hw _ (List.mem_of_getElem? (i := 2) rfl)) (by decide) (by decide)) q2a q2c (g := (mkF m 69 #[.val (.int p1), .val (.long q2), .second, .val (.int (own_k p1)), .val (.ref c_WORD), .val (.long (32 : Int64)), .second, .val (.int (1 : Int32))] [(.long q2), (.ref c_WORD)])) rfl (by rw [hml]; rfl) (Steps.refl _) (argsL := [(.long q2)]) (rest := []) (lenOf pd_0 rfl) rfl (by show 2 * 0 + _ ≤ _; exact Nat.le_of_eq rfl) (hb hby at_69) (fun _ _ => ⟨rfl, e1, (by decide : 0 + 0 ≤ _), (by decide : 0 + 0 ≤ _)⟩)
  dsimp only [Pt.U, Pt.locs, Pt.cells, Pt.slots] at X2 l2 y2 z2 st2 hQ2
  subst l2 y2 z2
  obtain ⟨rfl, N2q, e2⟩ := hQ2
  have N2 := Fr.app N0 N2q
  obtain ⟨fs, hr, hrun, hended, hW, hsame⟩ := X2.leave (v := some (.int (1 : Int32))) (fun h => by rw [Bd.returns] at h; cases h)
  refine ⟨_, _, pre0 _ ?_, hrun, hended, _, _, rfl, ?_, ⟨_, rfl⟩, hW, hsame.mono (by decide) (by decide)⟩
  · show Steps p.tables e below (s₁.setTop (mkF m 0 #[.val (.int p1), .val (.long q2), .second, .unset, .unset, .unset, .unset, .unset] [])) _
    refine XS.iloadN X0.here hx rfl (hb hby at_0) rfl ?_
    show Steps p.tables e below (s₁.setTop (mkF m 1 #[.val (.int p1), .val (.long q2), .second, .unset, .unset, .unset, .unset, .unset] [(.int p1)])) _
    refine X0.ldcI hx hown (mvT hZ (hw _ (List.mem_of_getElem? (i := 0) rfl))) (g := (mkF m 1 #[.val (.int p1), .val (.long q2), .second, .unset, .unset, .unset, .unset, .unset] [(.int p1)])) rfl (hb hby at_1) ?_
    show Steps p.tables e below (s₁.setTop (mkF m 3 #[.val (.int p1), .val (.long q2), .second, .unset, .unset, .unset, .unset, .unset] [(.int (2147483647 : Int32)), (.int p1)])) _
    refine XS.iand X0.here hx rfl (hb hby at_3) rfl ?_
    show Steps p.tables e below (s₁.setTop (mkF m 4 #[.val (.int p1), .val (.long q2), .second, .unset, .unset, .unset, .unset, .unset] [(.int (p1 &&& (2147483647 : Int32)))])) _
    refine XS.iconst X0.here hx rfl (hb hby at_4) ?_
    show Steps p.tables e below (s₁.setTop (mkF m 5 #[.val (.int p1), .val (.long q2), .second, .unset, .unset, .unset, .unset, .unset] [(.int (3 : Int32)), (.int (p1 &&& (2147483647 : Int32)))])) _
    refine iremM X0 hx rfl (hb hby at_5) rfl (by decide) ?_
    show Steps p.tables e below (s₁.setTop (mkF m 6 #[.val (.int p1), .val (.long q2), .second, .unset, .unset, .unset, .unset, .unset] [(.int (own_k p1))])) _
    refine XS.istoreN X0.here hx rfl (hb hby at_6) rfl (l' := #[.val (.int p1), .val (.long q2), .second, .val (.int (own_k p1)), .unset, .unset, .unset, .unset]) rfl ?_
    show Steps p.tables e below (s₁.setTop (mkF m 7 #[.val (.int p1), .val (.long q2), .second, .val (.int (own_k p1)), .unset, .unset, .unset, .unset] [])) _
    refine XS.iloadN X0.here hx rfl (hb hby at_7) rfl ?_
    show Steps p.tables e below (s₁.setTop (mkF m 8 #[.val (.int p1), .val (.long q2), .second, .val (.int (own_k p1)), .unset, .unset, .unset, .unset] [(.int (own_k p1))])) _
    refine XS.ifYes X0.here hx rfl (pc0 := 8) (pc' := 24) rfl (hb hby at_8) rfl ((if0 _ _).trans (feq hc8).2) (by decide) (by decide) ?_
    show Steps p.tables e below (s₁.setTop (mkF m 24 #[.val (.int p1), .val (.long q2), .second, .val (.int (own_k p1)), .unset, .unset, .unset, .unset] [])) _
    refine XS.iloadN X0.here hx rfl (hb hby at_24) rfl ?_
    show Steps p.tables e below (s₁.setTop (mkF m 25 #[.val (.int p1), .val (.long q2), .second, .val (.int (own_k p1)), .unset, .unset, .unset, .unset] [(.int (own_k p1))])) _
    refine XS.iconst X0.here hx rfl (hb hby at_25) ?_
    show Steps p.tables e below (s₁.setTop (mkF m 26 #[.val (.int p1), .val (.long q2), .second, .val (.int (own_k p1)), .unset, .unset, .unset, .unset] [(.int (1 : Int32)), (.int (own_k p1))])) _
    refine XS.icmpNo X0.here hx rfl (hb hby at_26) rfl (teq hc26).2 ?_
    show Steps p.tables e below (s₁.setTop (mkF m 29 #[.val (.int p1), .val (.long q2), .second, .val (.int (own_k p1)), .unset, .unset, .unset, .unset] [])) _
    refine st1 _ ?_
    show Steps p.tables e below (T1.setTop (mkF m 32 #[.val (.int p1), .val (.long q2), .second, .val (.int (own_k p1)), .unset, .unset, .unset, .unset] [(.ref c_WORD)])) _
    refine XS.astore X1.here hx rfl (hb hby at_32) rfl rfl (l' := #[.val (.int p1), .val (.long q2), .second, .val (.int (own_k p1)), .val (.ref c_WORD), .unset, .unset, .unset]) rfl ?_
    show Steps p.tables e below (T1.setTop (mkF m 34 #[.val (.int p1), .val (.long q2), .second, .val (.int (own_k p1)), .val (.ref c_WORD), .unset, .unset, .unset] [])) _
    refine X1.ldc2J hx hown (mvT hZ (hw _ (List.mem_of_getElem? (i := 14) rfl))) (g := (mkF m 34 #[.val (.int p1), .val (.long q2), .second, .val (.int (own_k p1)), .val (.ref c_WORD), .unset, .unset, .unset] [])) rfl (hb hby at_34) ?_
    show Steps p.tables e below (T1.setTop (mkF m 37 #[.val (.int p1), .val (.long q2), .second, .val (.int (own_k p1)), .val (.ref c_WORD), .unset, .unset, .unset] [(.long (32 : Int64))])) _
    refine XS.lstore X1.here hx rfl (hb hby at_37) rfl (l' := #[.val (.int p1), .val (.long q2), .second, .val (.int (own_k p1)), .val (.ref c_WORD), .val (.long (32 : Int64)), .second, .unset]) rfl ?_
    show Steps p.tables e below (T1.setTop (mkF m 39 #[.val (.int p1), .val (.long q2), .second, .val (.int (own_k p1)), .val (.ref c_WORD), .val (.long (32 : Int64)), .second, .unset] [])) _
    refine XS.goto X1.here hx rfl (pc0 := 39) (pc' := 50) rfl (hb hby at_39) (by decide) (by decide) ?_
    show Steps p.tables e below (T1.setTop (mkF m 50 #[.val (.int p1), .val (.long q2), .second, .val (.int (own_k p1)), .val (.ref c_WORD), .val (.long (32 : Int64)), .second, .unset] [])) _
    refine XS.lloadN X1.here hx rfl (hb hby at_50) rfl ?_
    show Steps p.tables e below (T1.setTop (mkF m 51 #[.val (.int p1), .val (.long q2), .second, .val (.int (own_k p1)), .val (.ref c_WORD), .val (.long (32 : Int64)), .second, .unset] [(.long q2)])) _
    refine XS.lload X1.here hx rfl (hb hby at_51) rfl ?_
    show Steps p.tables e below (T1.setTop (mkF m 53 #[.val (.int p1), .val (.long q2), .second, .val (.int (own_k p1)), .val (.ref c_WORD), .val (.long (32 : Int64)), .second, .unset] [(.long (32 : Int64)), (.long q2)])) _
    refine XS.lrem X1.here hx rfl (hb hby at_53) rfl (by decide) ?_
    show Steps p.tables e below (T1.setTop (mkF m 54 #[.val (.int p1), .val (.long q2), .second, .val (.int (own_k p1)), .val (.ref c_WORD), .val (.long (32 : Int64)), .second, .unset] [(.long (q2 - (q2 / (32 : Int64)) * (32 : Int64)))])) _
    refine XS.lconst X1.here hx rfl (hb hby at_54) ?_
    show Steps p.tables e below (T1.setTop (mkF m 55 #[.val (.int p1), .val (.long q2), .second, .val (.int (own_k p1)), .val (.ref c_WORD), .val (.long (32 : Int64)), .second, .unset] [(.long (0 : Int64)), (.long (q2 - (q2 / (32 : Int64)) * (32 : Int64)))])) _
    refine XS.lcmp X1.here hx rfl (hb hby at_55) rfl ?_
    show Steps p.tables e below (T1.setTop (mkF m 56 #[.val (.int p1), .val (.long q2), .second, .val (.int (own_k p1)), .val (.ref c_WORD), .val (.long (32 : Int64)), .second, .unset] [(.int (lcmpW (q2 - (q2 / (32 : Int64)) * (32 : Int64)) (0 : Int64)))])) _
    refine XS.ifNo X1.here hx rfl (hb hby at_56) rfl ((if0 _ _).trans (teq ((lw_eq (q2 - (q2 / (32 : Int64)) * (32 : Int64)) (0 : Int64)).mpr hc56)).2) ?_
    show Steps p.tables e below (T1.setTop (mkF m 59 #[.val (.int p1), .val (.long q2), .second, .val (.int (own_k p1)), .val (.ref c_WORD), .val (.long (32 : Int64)), .second, .unset] [])) _
    refine XS.iconst X1.here hx rfl (hb hby at_59) ?_
    show Steps p.tables e below (T1.setTop (mkF m 60 #[.val (.int p1), .val (.long q2), .second, .val (.int (own_k p1)), .val (.ref c_WORD), .val (.long (32 : Int64)), .second, .unset] [(.int (1 : Int32))])) _
    refine XS.goto X1.here hx rfl (pc0 := 60) (pc' := 64) rfl (hb hby at_60) (by decide) (by decide) ?_
    show Steps p.tables e below (T1.setTop (mkF m 64 #[.val (.int p1), .val (.long q2), .second, .val (.int (own_k p1)), .val (.ref c_WORD), .val (.long (32 : Int64)), .second, .unset] [(.int (1 : Int32))])) _
    refine XS.istore X1.here hx rfl (hb hby at_64) rfl (l' := #[.val (.int p1), .val (.long q2), .second, .val (.int (own_k p1)), .val (.ref c_WORD), .val (.long (32 : Int64)), .second, .val (.int (1 : Int32))]) rfl ?_
    show Steps p.tables e below (T1.setTop (mkF m 66 #[.val (.int p1), .val (.long q2), .second, .val (.int (own_k p1)), .val (.ref c_WORD), .val (.long (32 : Int64)), .second, .val (.int (1 : Int32))] [])) _
    refine XS.aload X1.here hx rfl (hb hby at_66) rfl rfl ?_
    show Steps p.tables e below (T1.setTop (mkF m 68 #[.val (.int p1), .val (.long q2), .second, .val (.int (own_k p1)), .val (.ref c_WORD), .val (.long (32 : Int64)), .second, .val (.int (1 : Int32))] [(.ref c_WORD)])) _
    refine XS.lloadN X1.here hx rfl (hb hby at_68) rfl ?_
    show Steps p.tables e below (T1.setTop (mkF m 69 #[.val (.int p1), .val (.long q2), .second, .val (.int (own_k p1)), .val (.ref c_WORD), .val (.long (32 : Int64)), .second, .val (.int (1 : Int32))] [(.long q2), (.ref c_WORD)])) _
    refine st2.trans ?_
    show Steps p.tables e below (T2.setTop (mkF m 72 #[.val (.int p1), .val (.long q2), .second, .val (.int (own_k p1)), .val (.ref c_WORD), .val (.long (32 : Int64)), .second, .val (.int (1 : Int32))] [(.int (own_holds q2 (32 : Int32)))])) _
    refine XS.iload X2.here hx rfl (hb hby at_72) rfl ?_
    show Steps p.tables e below (T2.setTop (mkF m 74 #[.val (.int p1), .val (.long q2), .second, .val (.int (own_k p1)), .val (.ref c_WORD), .val (.long (32 : Int64)), .second, .val (.int (1 : Int32))] [(.int (1 : Int32)), (.int (own_holds q2 (32 : Int32)))])) _
    refine XS.icmpNo X2.here hx rfl (hb hby at_74) rfl (teq hc74).2 ?_
    show Steps p.tables e below (T2.setTop (mkF m 77 #[.val (.int p1), .val (.long q2), .second, .val (.int (own_k p1)), .val (.ref c_WORD), .val (.long (32 : Int64)), .second, .val (.int (1 : Int32))] [])) _
    refine XS.iconst X2.here hx rfl (hb hby at_77) ?_
    show Steps p.tables e below (T2.setTop (mkF m 78 #[.val (.int p1), .val (.long q2), .second, .val (.int (own_k p1)), .val (.ref c_WORD), .val (.long (32 : Int64)), .second, .val (.int (1 : Int32))] [(.int (1 : Int32))])) _
    refine XS.goto X2.here hx rfl (pc0 := 78) (pc' := 82) rfl (hb hby at_78) (by decide) (by decide) ?_
    show Steps p.tables e below (T2.setTop (mkF m 82 #[.val (.int p1), .val (.long q2), .second, .val (.int (own_k p1)), .val (.ref c_WORD), .val (.long (32 : Int64)), .second, .val (.int (1 : Int32))] [(.int (1 : Int32))])) _
    exact retN X2 hx (t := .boolean) Bd.returns (by simp) (hb hby at_82) hr
  · show Q_rm0 Z p1 q2 c_BYTE c_WORD c_BIT h0 n0 _ T2.heap _
    rw [e2]
    exact ⟨rfl, N2, rfl⟩
set_option maxRecDepth 65536 in
set_option maxHeartbeats 40000000 in
theorem rm0_ftft (l : Launch) (Z : State) (a0 : Array Value) (hw : ∀ d ∈ tables_1, d.before a0 Z = true) (ws : List Jvm.Cond) (p1 : Int32) (q2 : Int64) (c_BYTE : Addr) (c_WORD : Addr) (c_BIT : Addr) (h0 : Heap) (n0 : Nat) (Z0 : n0 ≤ h0.size) (S_BYTE_ : Sta Z h0 "org/lexpack/codec/Codec$Alignment" "BYTE" "Lorg/lexpack/codec/Codec$Alignment;" (.ref c_BYTE)) (E_c_BYTE : Exa Z h0 c_BYTE "org/lexpack/codec/Codec$Alignment") (F_bits_c_BYTE : Fld Z h0 c_BYTE "org/lexpack/codec/Codec$Alignment" "bits" "I" (.int (8 : Int32))) (S_WORD_ : Sta Z h0 "org/lexpack/codec/Codec$Alignment" "WORD" "Lorg/lexpack/codec/Codec$Alignment;" (.ref c_WORD)) (E_c_WORD : Exa Z h0 c_WORD "org/lexpack/codec/Codec$Alignment") (F_bits_c_WORD : Fld Z h0 c_WORD "org/lexpack/codec/Codec$Alignment" "bits" "I" (.int (32 : Int32))) (S_BIT_ : Sta Z h0 "org/lexpack/codec/Codec$Alignment" "BIT" "Lorg/lexpack/codec/Codec$Alignment;" (.ref c_BIT)) (E_c_BIT : Exa Z h0 c_BIT "org/lexpack/codec/Codec$Alignment") (F_bits_c_BIT : Fld Z h0 c_BIT "org/lexpack/codec/Codec$Alignment" "bits" "I" (.int (1 : Int32))) (hc8 : ¬ ((own_k p1) = (0 : Int32))) (hc26 : (own_k p1) = (1 : Int32)) (hc56 : ¬ ((q2 - (q2 / (32 : Int64)) * (32 : Int64)) = (0 : Int64))) (hc74 : (own_holds q2 (32 : Int32)) = (0 : Int32)) :
    MetFree l x (head1 (Jvm.Cond.code x code maxLocals ret :: ws) room_1) (fun a U => a = #[(.int p1), (.long q2)] ∧ Z.Warmed39 U.vm ∧ U.heap = h0) (fun _ _ _ _ _ => True) (fun _ U o U' => ∃ v L, o = .returned v ∧ Q_rm0 Z p1 q2 c_BYTE c_WORD c_BIT h0 n0 v U'.heap L ∧ FrameEnd U o U' L room_1.cells room_1.slots) := by
  refine MetFree.of_bodySF (plainFor_of_name pn_1) hisR ?_
  intro p e s m args below meth c s₁ Bd hml0 hP hK
  obtain ⟨rfl, hZ, hh⟩ := hP
  have hx := Bd.exec
  have hby := Bd.bytes
  have hml : c.maxLocals = 8 := hml0
  have hown : s.vm.findClass "org/lexpack/codec/AlignmentHoldsPinLaw" = some m.cls := findClass_of_methodNamed Bd.named
  have hnm := (name_of_methodNamed Bd.named Bd.method).1
  have X0 : Stand p l e room_1 s m #[(.int p1), (.long q2)] below meth c s₁ [] 0 0 := Stand.of_body Bd
  have e0 : s₁.heap = h0 := by rw [← hh, Bd.state]; rfl
  have N0 := Fr.nil n0
  have pre0 : ∀ t, Steps p.tables e below (s₁.setTop (mkF m 0 #[.val (.int p1), .val (.long q2), .second, .unset, .unset, .unset, .unset, .unset] [])) t → Steps p.tables e below (s₁.setTop (entryFrame m #[(.int p1), (.long q2)] maxLocals)) t := fun t k => castTop (ef_1 m p1 q2) k
  obtain ⟨T1, X1, e1, st1⟩ := getS2 X0 hx hZ hown (host := "") (Or.inl (hw _ (List.mem_of_getElem? (i := 12) rfl))) Via.refl e0 S_WORD_ (g := (mkF m 29 #[.val (.int p1), .val (.long q2), .second, .val (.int (own_k p1)), .unset, .unset, .unset, .unset] [])) rfl (hb hby at_29)
  obtain ⟨cq2, kq2, q2a, q2b, q2c⟩ := isOf hZ e1 E_c_WORD
  obtain ⟨_, _, ⟨T2, L2, k2, n2⟩, -, X2, ⟨Lc2, hQ2, l2, y2, z2⟩, st2⟩ := X1.virtualBack hx (y := (⟨"org/lexpack/codec/Codec$Alignment", "holds", "(J)Z"⟩ : MethodName)) (z := (⟨"org/lexpack/codec/Codec$Alignment", "holds", "(J)Z"⟩ : MethodName)) hown (mvT hZ (hw _ (List.mem_of_getElem? (i := 5) rfl))) (mvT hZ (hw _ (List.mem_of_getElem? (i := 6) rfl))) (notFace_of_selects (args := #[]) (mvT hZ (hw _ (List.mem_of_getElem? (i := 8) rfl)))) (mvT hZ (hw _ (List.mem_of_getElem? (i := 8) rfl))) (mvT hZ (hw _ (List.mem_of_getElem? (i := 7) rfl))) (by decide) (backOf (W := 0) (rmH l Z a0 hw [] c_WORD q2 (32 : Int32) h0 n0 Z0 F_bits_c_WORD) hZ (hw _ (List.mem_of_getElem? (i := 9) rfl)) (hw _ (List.mem_of_getElem? (i := 2) rfl)) (by decide) (by decide)) q2a q2c (g := (mkF m 69 #[.val (.int p1), .val (.long q2), .second, .val (.int (own_k p1)), .val (.ref c_WORD), .val (.long (32 : Int64)), .second, .val (.int (0 : Int32))] [(.long q2), (.ref c_WORD)])) rfl (by rw [hml]; rfl) (Steps.refl _) (argsL := [(.long q2)]) (rest := []) (lenOf pd_0 rfl) rfl (by show 2 * 0 + _ ≤ _; exact Nat.le_of_eq rfl) (hb hby at_69) (fun _ _ => ⟨rfl, e1, (by decide : 0 + 0 ≤ _), (by decide : 0 + 0 ≤ _)⟩)
  dsimp only [Pt.U, Pt.locs, Pt.cells, Pt.slots] at X2 l2 y2 z2 st2 hQ2
  subst l2 y2 z2
  obtain ⟨rfl, N2q, e2⟩ := hQ2
  have N2 := Fr.app N0 N2q
  obtain ⟨fs, hr, hrun, hended, hW, hsame⟩ := X2.leave (v := some (.int (1 : Int32))) (fun h => by rw [Bd.returns] at h; cases h)
  refine ⟨_, _, pre0 _ ?_, hrun, hended, _, _, rfl, ?_, ⟨_, rfl⟩, hW, hsame.mono (by decide) (by decide)⟩
  · show Steps p.tables e below (s₁.setTop (mkF m 0 #[.val (.int p1), .val (.long q2), .second, .unset, .unset, .unset, .unset, .unset] [])) _
    refine XS.iloadN X0.here hx rfl (hb hby at_0) rfl ?_
    show Steps p.tables e below (s₁.setTop (mkF m 1 #[.val (.int p1), .val (.long q2), .second, .unset, .unset, .unset, .unset, .unset] [(.int p1)])) _
    refine X0.ldcI hx hown (mvT hZ (hw _ (List.mem_of_getElem? (i := 0) rfl))) (g := (mkF m 1 #[.val (.int p1), .val (.long q2), .second, .unset, .unset, .unset, .unset, .unset] [(.int p1)])) rfl (hb hby at_1) ?_
    show Steps p.tables e below (s₁.setTop (mkF m 3 #[.val (.int p1), .val (.long q2), .second, .unset, .unset, .unset, .unset, .unset] [(.int (2147483647 : Int32)), (.int p1)])) _
    refine XS.iand X0.here hx rfl (hb hby at_3) rfl ?_
    show Steps p.tables e below (s₁.setTop (mkF m 4 #[.val (.int p1), .val (.long q2), .second, .unset, .unset, .unset, .unset, .unset] [(.int (p1 &&& (2147483647 : Int32)))])) _
    refine XS.iconst X0.here hx rfl (hb hby at_4) ?_
    show Steps p.tables e below (s₁.setTop (mkF m 5 #[.val (.int p1), .val (.long q2), .second, .unset, .unset, .unset, .unset, .unset] [(.int (3 : Int32)), (.int (p1 &&& (2147483647 : Int32)))])) _
    refine iremM X0 hx rfl (hb hby at_5) rfl (by decide) ?_
    show Steps p.tables e below (s₁.setTop (mkF m 6 #[.val (.int p1), .val (.long q2), .second, .unset, .unset, .unset, .unset, .unset] [(.int (own_k p1))])) _
    refine XS.istoreN X0.here hx rfl (hb hby at_6) rfl (l' := #[.val (.int p1), .val (.long q2), .second, .val (.int (own_k p1)), .unset, .unset, .unset, .unset]) rfl ?_
    show Steps p.tables e below (s₁.setTop (mkF m 7 #[.val (.int p1), .val (.long q2), .second, .val (.int (own_k p1)), .unset, .unset, .unset, .unset] [])) _
    refine XS.iloadN X0.here hx rfl (hb hby at_7) rfl ?_
    show Steps p.tables e below (s₁.setTop (mkF m 8 #[.val (.int p1), .val (.long q2), .second, .val (.int (own_k p1)), .unset, .unset, .unset, .unset] [(.int (own_k p1))])) _
    refine XS.ifYes X0.here hx rfl (pc0 := 8) (pc' := 24) rfl (hb hby at_8) rfl ((if0 _ _).trans (feq hc8).2) (by decide) (by decide) ?_
    show Steps p.tables e below (s₁.setTop (mkF m 24 #[.val (.int p1), .val (.long q2), .second, .val (.int (own_k p1)), .unset, .unset, .unset, .unset] [])) _
    refine XS.iloadN X0.here hx rfl (hb hby at_24) rfl ?_
    show Steps p.tables e below (s₁.setTop (mkF m 25 #[.val (.int p1), .val (.long q2), .second, .val (.int (own_k p1)), .unset, .unset, .unset, .unset] [(.int (own_k p1))])) _
    refine XS.iconst X0.here hx rfl (hb hby at_25) ?_
    show Steps p.tables e below (s₁.setTop (mkF m 26 #[.val (.int p1), .val (.long q2), .second, .val (.int (own_k p1)), .unset, .unset, .unset, .unset] [(.int (1 : Int32)), (.int (own_k p1))])) _
    refine XS.icmpNo X0.here hx rfl (hb hby at_26) rfl (teq hc26).2 ?_
    show Steps p.tables e below (s₁.setTop (mkF m 29 #[.val (.int p1), .val (.long q2), .second, .val (.int (own_k p1)), .unset, .unset, .unset, .unset] [])) _
    refine st1 _ ?_
    show Steps p.tables e below (T1.setTop (mkF m 32 #[.val (.int p1), .val (.long q2), .second, .val (.int (own_k p1)), .unset, .unset, .unset, .unset] [(.ref c_WORD)])) _
    refine XS.astore X1.here hx rfl (hb hby at_32) rfl rfl (l' := #[.val (.int p1), .val (.long q2), .second, .val (.int (own_k p1)), .val (.ref c_WORD), .unset, .unset, .unset]) rfl ?_
    show Steps p.tables e below (T1.setTop (mkF m 34 #[.val (.int p1), .val (.long q2), .second, .val (.int (own_k p1)), .val (.ref c_WORD), .unset, .unset, .unset] [])) _
    refine X1.ldc2J hx hown (mvT hZ (hw _ (List.mem_of_getElem? (i := 14) rfl))) (g := (mkF m 34 #[.val (.int p1), .val (.long q2), .second, .val (.int (own_k p1)), .val (.ref c_WORD), .unset, .unset, .unset] [])) rfl (hb hby at_34) ?_
    show Steps p.tables e below (T1.setTop (mkF m 37 #[.val (.int p1), .val (.long q2), .second, .val (.int (own_k p1)), .val (.ref c_WORD), .unset, .unset, .unset] [(.long (32 : Int64))])) _
    refine XS.lstore X1.here hx rfl (hb hby at_37) rfl (l' := #[.val (.int p1), .val (.long q2), .second, .val (.int (own_k p1)), .val (.ref c_WORD), .val (.long (32 : Int64)), .second, .unset]) rfl ?_
    show Steps p.tables e below (T1.setTop (mkF m 39 #[.val (.int p1), .val (.long q2), .second, .val (.int (own_k p1)), .val (.ref c_WORD), .val (.long (32 : Int64)), .second, .unset] [])) _
    refine XS.goto X1.here hx rfl (pc0 := 39) (pc' := 50) rfl (hb hby at_39) (by decide) (by decide) ?_
    show Steps p.tables e below (T1.setTop (mkF m 50 #[.val (.int p1), .val (.long q2), .second, .val (.int (own_k p1)), .val (.ref c_WORD), .val (.long (32 : Int64)), .second, .unset] [])) _
    refine XS.lloadN X1.here hx rfl (hb hby at_50) rfl ?_
    show Steps p.tables e below (T1.setTop (mkF m 51 #[.val (.int p1), .val (.long q2), .second, .val (.int (own_k p1)), .val (.ref c_WORD), .val (.long (32 : Int64)), .second, .unset] [(.long q2)])) _
    refine XS.lload X1.here hx rfl (hb hby at_51) rfl ?_
    show Steps p.tables e below (T1.setTop (mkF m 53 #[.val (.int p1), .val (.long q2), .second, .val (.int (own_k p1)), .val (.ref c_WORD), .val (.long (32 : Int64)), .second, .unset] [(.long (32 : Int64)), (.long q2)])) _
    refine XS.lrem X1.here hx rfl (hb hby at_53) rfl (by decide) ?_
    show Steps p.tables e below (T1.setTop (mkF m 54 #[.val (.int p1), .val (.long q2), .second, .val (.int (own_k p1)), .val (.ref c_WORD), .val (.long (32 : Int64)), .second, .unset] [(.long (q2 - (q2 / (32 : Int64)) * (32 : Int64)))])) _
    refine XS.lconst X1.here hx rfl (hb hby at_54) ?_
    show Steps p.tables e below (T1.setTop (mkF m 55 #[.val (.int p1), .val (.long q2), .second, .val (.int (own_k p1)), .val (.ref c_WORD), .val (.long (32 : Int64)), .second, .unset] [(.long (0 : Int64)), (.long (q2 - (q2 / (32 : Int64)) * (32 : Int64)))])) _
    refine XS.lcmp X1.here hx rfl (hb hby at_55) rfl ?_
    show Steps p.tables e below (T1.setTop (mkF m 56 #[.val (.int p1), .val (.long q2), .second, .val (.int (own_k p1)), .val (.ref c_WORD), .val (.long (32 : Int64)), .second, .unset] [(.int (lcmpW (q2 - (q2 / (32 : Int64)) * (32 : Int64)) (0 : Int64)))])) _
    refine XS.ifYes X1.here hx rfl (pc0 := 56) (pc' := 63) rfl (hb hby at_56) rfl ((if0 _ _).trans (feq (mt (lw_eq (q2 - (q2 / (32 : Int64)) * (32 : Int64)) (0 : Int64)).mp hc56)).2) (by decide) (by decide) ?_
    show Steps p.tables e below (T1.setTop (mkF m 63 #[.val (.int p1), .val (.long q2), .second, .val (.int (own_k p1)), .val (.ref c_WORD), .val (.long (32 : Int64)), .second, .unset] [])) _
    refine XS.iconst X1.here hx rfl (hb hby at_63) ?_
    show Steps p.tables e below (T1.setTop (mkF m 64 #[.val (.int p1), .val (.long q2), .second, .val (.int (own_k p1)), .val (.ref c_WORD), .val (.long (32 : Int64)), .second, .unset] [(.int (0 : Int32))])) _
    refine XS.istore X1.here hx rfl (hb hby at_64) rfl (l' := #[.val (.int p1), .val (.long q2), .second, .val (.int (own_k p1)), .val (.ref c_WORD), .val (.long (32 : Int64)), .second, .val (.int (0 : Int32))]) rfl ?_
    show Steps p.tables e below (T1.setTop (mkF m 66 #[.val (.int p1), .val (.long q2), .second, .val (.int (own_k p1)), .val (.ref c_WORD), .val (.long (32 : Int64)), .second, .val (.int (0 : Int32))] [])) _
    refine XS.aload X1.here hx rfl (hb hby at_66) rfl rfl ?_
    show Steps p.tables e below (T1.setTop (mkF m 68 #[.val (.int p1), .val (.long q2), .second, .val (.int (own_k p1)), .val (.ref c_WORD), .val (.long (32 : Int64)), .second, .val (.int (0 : Int32))] [(.ref c_WORD)])) _
    refine XS.lloadN X1.here hx rfl (hb hby at_68) rfl ?_
    show Steps p.tables e below (T1.setTop (mkF m 69 #[.val (.int p1), .val (.long q2), .second, .val (.int (own_k p1)), .val (.ref c_WORD), .val (.long (32 : Int64)), .second, .val (.int (0 : Int32))] [(.long q2), (.ref c_WORD)])) _
    refine st2.trans ?_
    show Steps p.tables e below (T2.setTop (mkF m 72 #[.val (.int p1), .val (.long q2), .second, .val (.int (own_k p1)), .val (.ref c_WORD), .val (.long (32 : Int64)), .second, .val (.int (0 : Int32))] [(.int (own_holds q2 (32 : Int32)))])) _
    refine XS.iload X2.here hx rfl (hb hby at_72) rfl ?_
    show Steps p.tables e below (T2.setTop (mkF m 74 #[.val (.int p1), .val (.long q2), .second, .val (.int (own_k p1)), .val (.ref c_WORD), .val (.long (32 : Int64)), .second, .val (.int (0 : Int32))] [(.int (0 : Int32)), (.int (own_holds q2 (32 : Int32)))])) _
    refine XS.icmpNo X2.here hx rfl (hb hby at_74) rfl (teq hc74).2 ?_
    show Steps p.tables e below (T2.setTop (mkF m 77 #[.val (.int p1), .val (.long q2), .second, .val (.int (own_k p1)), .val (.ref c_WORD), .val (.long (32 : Int64)), .second, .val (.int (0 : Int32))] [])) _
    refine XS.iconst X2.here hx rfl (hb hby at_77) ?_
    show Steps p.tables e below (T2.setTop (mkF m 78 #[.val (.int p1), .val (.long q2), .second, .val (.int (own_k p1)), .val (.ref c_WORD), .val (.long (32 : Int64)), .second, .val (.int (0 : Int32))] [(.int (1 : Int32))])) _
    refine XS.goto X2.here hx rfl (pc0 := 78) (pc' := 82) rfl (hb hby at_78) (by decide) (by decide) ?_
    show Steps p.tables e below (T2.setTop (mkF m 82 #[.val (.int p1), .val (.long q2), .second, .val (.int (own_k p1)), .val (.ref c_WORD), .val (.long (32 : Int64)), .second, .val (.int (0 : Int32))] [(.int (1 : Int32))])) _
    exact retN X2 hx (t := .boolean) Bd.returns (by simp) (hb hby at_82) hr
  · show Q_rm0 Z p1 q2 c_BYTE c_WORD c_BIT h0 n0 _ T2.heap _
    rw [e2]
    exact ⟨rfl, N2, rfl⟩
set_option maxRecDepth 65536 in
set_option maxHeartbeats 40000000 in
theorem rm0_fftt (l : Launch) (Z : State) (a0 : Array Value) (hw : ∀ d ∈ tables_1, d.before a0 Z = true) (ws : List Jvm.Cond) (p1 : Int32) (q2 : Int64) (c_BYTE : Addr) (c_WORD : Addr) (c_BIT : Addr) (h0 : Heap) (n0 : Nat) (Z0 : n0 ≤ h0.size) (S_BYTE_ : Sta Z h0 "org/lexpack/codec/Codec$Alignment" "BYTE" "Lorg/lexpack/codec/Codec$Alignment;" (.ref c_BYTE)) (E_c_BYTE : Exa Z h0 c_BYTE "org/lexpack/codec/Codec$Alignment") (F_bits_c_BYTE : Fld Z h0 c_BYTE "org/lexpack/codec/Codec$Alignment" "bits" "I" (.int (8 : Int32))) (S_WORD_ : Sta Z h0 "org/lexpack/codec/Codec$Alignment" "WORD" "Lorg/lexpack/codec/Codec$Alignment;" (.ref c_WORD)) (E_c_WORD : Exa Z h0 c_WORD "org/lexpack/codec/Codec$Alignment") (F_bits_c_WORD : Fld Z h0 c_WORD "org/lexpack/codec/Codec$Alignment" "bits" "I" (.int (32 : Int32))) (S_BIT_ : Sta Z h0 "org/lexpack/codec/Codec$Alignment" "BIT" "Lorg/lexpack/codec/Codec$Alignment;" (.ref c_BIT)) (E_c_BIT : Exa Z h0 c_BIT "org/lexpack/codec/Codec$Alignment") (F_bits_c_BIT : Fld Z h0 c_BIT "org/lexpack/codec/Codec$Alignment" "bits" "I" (.int (1 : Int32))) (hc8 : ¬ ((own_k p1) = (0 : Int32))) (hc26 : ¬ ((own_k p1) = (1 : Int32))) (hc56 : (q2 - (q2 / (1 : Int64)) * (1 : Int64)) = (0 : Int64)) (hc74 : (own_holds q2 (1 : Int32)) = (1 : Int32)) :
    MetFree l x (head1 (Jvm.Cond.code x code maxLocals ret :: ws) room_1) (fun a U => a = #[(.int p1), (.long q2)] ∧ Z.Warmed39 U.vm ∧ U.heap = h0) (fun _ _ _ _ _ => True) (fun _ U o U' => ∃ v L, o = .returned v ∧ Q_rm0 Z p1 q2 c_BYTE c_WORD c_BIT h0 n0 v U'.heap L ∧ FrameEnd U o U' L room_1.cells room_1.slots) := by
  refine MetFree.of_bodySF (plainFor_of_name pn_1) hisR ?_
  intro p e s m args below meth c s₁ Bd hml0 hP hK
  obtain ⟨rfl, hZ, hh⟩ := hP
  have hx := Bd.exec
  have hby := Bd.bytes
  have hml : c.maxLocals = 8 := hml0
  have hown : s.vm.findClass "org/lexpack/codec/AlignmentHoldsPinLaw" = some m.cls := findClass_of_methodNamed Bd.named
  have hnm := (name_of_methodNamed Bd.named Bd.method).1
  have X0 : Stand p l e room_1 s m #[(.int p1), (.long q2)] below meth c s₁ [] 0 0 := Stand.of_body Bd
  have e0 : s₁.heap = h0 := by rw [← hh, Bd.state]; rfl
  have N0 := Fr.nil n0
  have pre0 : ∀ t, Steps p.tables e below (s₁.setTop (mkF m 0 #[.val (.int p1), .val (.long q2), .second, .unset, .unset, .unset, .unset, .unset] [])) t → Steps p.tables e below (s₁.setTop (entryFrame m #[(.int p1), (.long q2)] maxLocals)) t := fun t k => castTop (ef_1 m p1 q2) k
  obtain ⟨T1, X1, e1, st1⟩ := getS2 X0 hx hZ hown (host := "") (Or.inl (hw _ (List.mem_of_getElem? (i := 15) rfl))) Via.refl e0 S_BIT_ (g := (mkF m 42 #[.val (.int p1), .val (.long q2), .second, .val (.int (own_k p1)), .unset, .unset, .unset, .unset] [])) rfl (hb hby at_42)
  obtain ⟨cq2, kq2, q2a, q2b, q2c⟩ := isOf hZ e1 E_c_BIT
  obtain ⟨_, _, ⟨T2, L2, k2, n2⟩, -, X2, ⟨Lc2, hQ2, l2, y2, z2⟩, st2⟩ := X1.virtualBack hx (y := (⟨"org/lexpack/codec/Codec$Alignment", "holds", "(J)Z"⟩ : MethodName)) (z := (⟨"org/lexpack/codec/Codec$Alignment", "holds", "(J)Z"⟩ : MethodName)) hown (mvT hZ (hw _ (List.mem_of_getElem? (i := 5) rfl))) (mvT hZ (hw _ (List.mem_of_getElem? (i := 6) rfl))) (notFace_of_selects (args := #[]) (mvT hZ (hw _ (List.mem_of_getElem? (i := 8) rfl)))) (mvT hZ (hw _ (List.mem_of_getElem? (i := 8) rfl))) (mvT hZ (hw _ (List.mem_of_getElem? (i := 7) rfl))) (by decide) (backOf (W := 0) (rmH l Z a0 hw [] c_BIT q2 (1 : Int32) h0 n0 Z0 F_bits_c_BIT) hZ (hw _ (List.mem_of_getElem? (i := 9) rfl)) (hw _ (List.mem_of_getElem? (i := 2) rfl)) (by decide) (by decide)) q2a q2c (g := (mkF m 69 #[.val (.int p1), .val (.long q2), .second, .val (.int (own_k p1)), .val (.ref c_BIT), .val (.long (1 : Int64)), .second, .val (.int (1 : Int32))] [(.long q2), (.ref c_BIT)])) rfl (by rw [hml]; rfl) (Steps.refl _) (argsL := [(.long q2)]) (rest := []) (lenOf pd_0 rfl) rfl (by show 2 * 0 + _ ≤ _; exact Nat.le_of_eq rfl) (hb hby at_69) (fun _ _ => ⟨rfl, e1, (by decide : 0 + 0 ≤ _), (by decide : 0 + 0 ≤ _)⟩)
  dsimp only [Pt.U, Pt.locs, Pt.cells, Pt.slots] at X2 l2 y2 z2 st2 hQ2
  subst l2 y2 z2
  obtain ⟨rfl, N2q, e2⟩ := hQ2
  have N2 := Fr.app N0 N2q
  obtain ⟨fs, hr, hrun, hended, hW, hsame⟩ := X2.leave (v := some (.int (1 : Int32))) (fun h => by rw [Bd.returns] at h; cases h)
  refine ⟨_, _, pre0 _ ?_, hrun, hended, _, _, rfl, ?_, ⟨_, rfl⟩, hW, hsame.mono (by decide) (by decide)⟩
  · show Steps p.tables e below (s₁.setTop (mkF m 0 #[.val (.int p1), .val (.long q2), .second, .unset, .unset, .unset, .unset, .unset] [])) _
    refine XS.iloadN X0.here hx rfl (hb hby at_0) rfl ?_
    show Steps p.tables e below (s₁.setTop (mkF m 1 #[.val (.int p1), .val (.long q2), .second, .unset, .unset, .unset, .unset, .unset] [(.int p1)])) _
    refine X0.ldcI hx hown (mvT hZ (hw _ (List.mem_of_getElem? (i := 0) rfl))) (g := (mkF m 1 #[.val (.int p1), .val (.long q2), .second, .unset, .unset, .unset, .unset, .unset] [(.int p1)])) rfl (hb hby at_1) ?_
    show Steps p.tables e below (s₁.setTop (mkF m 3 #[.val (.int p1), .val (.long q2), .second, .unset, .unset, .unset, .unset, .unset] [(.int (2147483647 : Int32)), (.int p1)])) _
    refine XS.iand X0.here hx rfl (hb hby at_3) rfl ?_
    show Steps p.tables e below (s₁.setTop (mkF m 4 #[.val (.int p1), .val (.long q2), .second, .unset, .unset, .unset, .unset, .unset] [(.int (p1 &&& (2147483647 : Int32)))])) _
    refine XS.iconst X0.here hx rfl (hb hby at_4) ?_
    show Steps p.tables e below (s₁.setTop (mkF m 5 #[.val (.int p1), .val (.long q2), .second, .unset, .unset, .unset, .unset, .unset] [(.int (3 : Int32)), (.int (p1 &&& (2147483647 : Int32)))])) _
    refine iremM X0 hx rfl (hb hby at_5) rfl (by decide) ?_
    show Steps p.tables e below (s₁.setTop (mkF m 6 #[.val (.int p1), .val (.long q2), .second, .unset, .unset, .unset, .unset, .unset] [(.int (own_k p1))])) _
    refine XS.istoreN X0.here hx rfl (hb hby at_6) rfl (l' := #[.val (.int p1), .val (.long q2), .second, .val (.int (own_k p1)), .unset, .unset, .unset, .unset]) rfl ?_
    show Steps p.tables e below (s₁.setTop (mkF m 7 #[.val (.int p1), .val (.long q2), .second, .val (.int (own_k p1)), .unset, .unset, .unset, .unset] [])) _
    refine XS.iloadN X0.here hx rfl (hb hby at_7) rfl ?_
    show Steps p.tables e below (s₁.setTop (mkF m 8 #[.val (.int p1), .val (.long q2), .second, .val (.int (own_k p1)), .unset, .unset, .unset, .unset] [(.int (own_k p1))])) _
    refine XS.ifYes X0.here hx rfl (pc0 := 8) (pc' := 24) rfl (hb hby at_8) rfl ((if0 _ _).trans (feq hc8).2) (by decide) (by decide) ?_
    show Steps p.tables e below (s₁.setTop (mkF m 24 #[.val (.int p1), .val (.long q2), .second, .val (.int (own_k p1)), .unset, .unset, .unset, .unset] [])) _
    refine XS.iloadN X0.here hx rfl (hb hby at_24) rfl ?_
    show Steps p.tables e below (s₁.setTop (mkF m 25 #[.val (.int p1), .val (.long q2), .second, .val (.int (own_k p1)), .unset, .unset, .unset, .unset] [(.int (own_k p1))])) _
    refine XS.iconst X0.here hx rfl (hb hby at_25) ?_
    show Steps p.tables e below (s₁.setTop (mkF m 26 #[.val (.int p1), .val (.long q2), .second, .val (.int (own_k p1)), .unset, .unset, .unset, .unset] [(.int (1 : Int32)), (.int (own_k p1))])) _
    refine XS.icmpYes X0.here hx rfl (pc0 := 26) (pc' := 42) rfl (hb hby at_26) rfl (feq hc26).2 (by decide) (by decide) ?_
    show Steps p.tables e below (s₁.setTop (mkF m 42 #[.val (.int p1), .val (.long q2), .second, .val (.int (own_k p1)), .unset, .unset, .unset, .unset] [])) _
    refine st1 _ ?_
    show Steps p.tables e below (T1.setTop (mkF m 45 #[.val (.int p1), .val (.long q2), .second, .val (.int (own_k p1)), .unset, .unset, .unset, .unset] [(.ref c_BIT)])) _
    refine XS.astore X1.here hx rfl (hb hby at_45) rfl rfl (l' := #[.val (.int p1), .val (.long q2), .second, .val (.int (own_k p1)), .val (.ref c_BIT), .unset, .unset, .unset]) rfl ?_
    show Steps p.tables e below (T1.setTop (mkF m 47 #[.val (.int p1), .val (.long q2), .second, .val (.int (own_k p1)), .val (.ref c_BIT), .unset, .unset, .unset] [])) _
    refine XS.lconst X1.here hx rfl (hb hby at_47) ?_
    show Steps p.tables e below (T1.setTop (mkF m 48 #[.val (.int p1), .val (.long q2), .second, .val (.int (own_k p1)), .val (.ref c_BIT), .unset, .unset, .unset] [(.long (1 : Int64))])) _
    refine XS.lstore X1.here hx rfl (hb hby at_48) rfl (l' := #[.val (.int p1), .val (.long q2), .second, .val (.int (own_k p1)), .val (.ref c_BIT), .val (.long (1 : Int64)), .second, .unset]) rfl ?_
    show Steps p.tables e below (T1.setTop (mkF m 50 #[.val (.int p1), .val (.long q2), .second, .val (.int (own_k p1)), .val (.ref c_BIT), .val (.long (1 : Int64)), .second, .unset] [])) _
    refine XS.lloadN X1.here hx rfl (hb hby at_50) rfl ?_
    show Steps p.tables e below (T1.setTop (mkF m 51 #[.val (.int p1), .val (.long q2), .second, .val (.int (own_k p1)), .val (.ref c_BIT), .val (.long (1 : Int64)), .second, .unset] [(.long q2)])) _
    refine XS.lload X1.here hx rfl (hb hby at_51) rfl ?_
    show Steps p.tables e below (T1.setTop (mkF m 53 #[.val (.int p1), .val (.long q2), .second, .val (.int (own_k p1)), .val (.ref c_BIT), .val (.long (1 : Int64)), .second, .unset] [(.long (1 : Int64)), (.long q2)])) _
    refine XS.lrem X1.here hx rfl (hb hby at_53) rfl (by decide) ?_
    show Steps p.tables e below (T1.setTop (mkF m 54 #[.val (.int p1), .val (.long q2), .second, .val (.int (own_k p1)), .val (.ref c_BIT), .val (.long (1 : Int64)), .second, .unset] [(.long (q2 - (q2 / (1 : Int64)) * (1 : Int64)))])) _
    refine XS.lconst X1.here hx rfl (hb hby at_54) ?_
    show Steps p.tables e below (T1.setTop (mkF m 55 #[.val (.int p1), .val (.long q2), .second, .val (.int (own_k p1)), .val (.ref c_BIT), .val (.long (1 : Int64)), .second, .unset] [(.long (0 : Int64)), (.long (q2 - (q2 / (1 : Int64)) * (1 : Int64)))])) _
    refine XS.lcmp X1.here hx rfl (hb hby at_55) rfl ?_
    show Steps p.tables e below (T1.setTop (mkF m 56 #[.val (.int p1), .val (.long q2), .second, .val (.int (own_k p1)), .val (.ref c_BIT), .val (.long (1 : Int64)), .second, .unset] [(.int (lcmpW (q2 - (q2 / (1 : Int64)) * (1 : Int64)) (0 : Int64)))])) _
    refine XS.ifNo X1.here hx rfl (hb hby at_56) rfl ((if0 _ _).trans (teq ((lw_eq (q2 - (q2 / (1 : Int64)) * (1 : Int64)) (0 : Int64)).mpr hc56)).2) ?_
    show Steps p.tables e below (T1.setTop (mkF m 59 #[.val (.int p1), .val (.long q2), .second, .val (.int (own_k p1)), .val (.ref c_BIT), .val (.long (1 : Int64)), .second, .unset] [])) _
    refine XS.iconst X1.here hx rfl (hb hby at_59) ?_
    show Steps p.tables e below (T1.setTop (mkF m 60 #[.val (.int p1), .val (.long q2), .second, .val (.int (own_k p1)), .val (.ref c_BIT), .val (.long (1 : Int64)), .second, .unset] [(.int (1 : Int32))])) _
    refine XS.goto X1.here hx rfl (pc0 := 60) (pc' := 64) rfl (hb hby at_60) (by decide) (by decide) ?_
    show Steps p.tables e below (T1.setTop (mkF m 64 #[.val (.int p1), .val (.long q2), .second, .val (.int (own_k p1)), .val (.ref c_BIT), .val (.long (1 : Int64)), .second, .unset] [(.int (1 : Int32))])) _
    refine XS.istore X1.here hx rfl (hb hby at_64) rfl (l' := #[.val (.int p1), .val (.long q2), .second, .val (.int (own_k p1)), .val (.ref c_BIT), .val (.long (1 : Int64)), .second, .val (.int (1 : Int32))]) rfl ?_
    show Steps p.tables e below (T1.setTop (mkF m 66 #[.val (.int p1), .val (.long q2), .second, .val (.int (own_k p1)), .val (.ref c_BIT), .val (.long (1 : Int64)), .second, .val (.int (1 : Int32))] [])) _
    refine XS.aload X1.here hx rfl (hb hby at_66) rfl rfl ?_
    show Steps p.tables e below (T1.setTop (mkF m 68 #[.val (.int p1), .val (.long q2), .second, .val (.int (own_k p1)), .val (.ref c_BIT), .val (.long (1 : Int64)), .second, .val (.int (1 : Int32))] [(.ref c_BIT)])) _
    refine XS.lloadN X1.here hx rfl (hb hby at_68) rfl ?_
    show Steps p.tables e below (T1.setTop (mkF m 69 #[.val (.int p1), .val (.long q2), .second, .val (.int (own_k p1)), .val (.ref c_BIT), .val (.long (1 : Int64)), .second, .val (.int (1 : Int32))] [(.long q2), (.ref c_BIT)])) _
    refine st2.trans ?_
    show Steps p.tables e below (T2.setTop (mkF m 72 #[.val (.int p1), .val (.long q2), .second, .val (.int (own_k p1)), .val (.ref c_BIT), .val (.long (1 : Int64)), .second, .val (.int (1 : Int32))] [(.int (own_holds q2 (1 : Int32)))])) _
    refine XS.iload X2.here hx rfl (hb hby at_72) rfl ?_
    show Steps p.tables e below (T2.setTop (mkF m 74 #[.val (.int p1), .val (.long q2), .second, .val (.int (own_k p1)), .val (.ref c_BIT), .val (.long (1 : Int64)), .second, .val (.int (1 : Int32))] [(.int (1 : Int32)), (.int (own_holds q2 (1 : Int32)))])) _
    refine XS.icmpNo X2.here hx rfl (hb hby at_74) rfl (teq hc74).2 ?_
    show Steps p.tables e below (T2.setTop (mkF m 77 #[.val (.int p1), .val (.long q2), .second, .val (.int (own_k p1)), .val (.ref c_BIT), .val (.long (1 : Int64)), .second, .val (.int (1 : Int32))] [])) _
    refine XS.iconst X2.here hx rfl (hb hby at_77) ?_
    show Steps p.tables e below (T2.setTop (mkF m 78 #[.val (.int p1), .val (.long q2), .second, .val (.int (own_k p1)), .val (.ref c_BIT), .val (.long (1 : Int64)), .second, .val (.int (1 : Int32))] [(.int (1 : Int32))])) _
    refine XS.goto X2.here hx rfl (pc0 := 78) (pc' := 82) rfl (hb hby at_78) (by decide) (by decide) ?_
    show Steps p.tables e below (T2.setTop (mkF m 82 #[.val (.int p1), .val (.long q2), .second, .val (.int (own_k p1)), .val (.ref c_BIT), .val (.long (1 : Int64)), .second, .val (.int (1 : Int32))] [(.int (1 : Int32))])) _
    exact retN X2 hx (t := .boolean) Bd.returns (by simp) (hb hby at_82) hr
  · show Q_rm0 Z p1 q2 c_BYTE c_WORD c_BIT h0 n0 _ T2.heap _
    rw [e2]
    exact ⟨rfl, N2, rfl⟩
set_option maxRecDepth 65536 in
set_option maxHeartbeats 40000000 in
theorem rm0_ffft (l : Launch) (Z : State) (a0 : Array Value) (hw : ∀ d ∈ tables_1, d.before a0 Z = true) (ws : List Jvm.Cond) (p1 : Int32) (q2 : Int64) (c_BYTE : Addr) (c_WORD : Addr) (c_BIT : Addr) (h0 : Heap) (n0 : Nat) (Z0 : n0 ≤ h0.size) (S_BYTE_ : Sta Z h0 "org/lexpack/codec/Codec$Alignment" "BYTE" "Lorg/lexpack/codec/Codec$Alignment;" (.ref c_BYTE)) (E_c_BYTE : Exa Z h0 c_BYTE "org/lexpack/codec/Codec$Alignment") (F_bits_c_BYTE : Fld Z h0 c_BYTE "org/lexpack/codec/Codec$Alignment" "bits" "I" (.int (8 : Int32))) (S_WORD_ : Sta Z h0 "org/lexpack/codec/Codec$Alignment" "WORD" "Lorg/lexpack/codec/Codec$Alignment;" (.ref c_WORD)) (E_c_WORD : Exa Z h0 c_WORD "org/lexpack/codec/Codec$Alignment") (F_bits_c_WORD : Fld Z h0 c_WORD "org/lexpack/codec/Codec$Alignment" "bits" "I" (.int (32 : Int32))) (S_BIT_ : Sta Z h0 "org/lexpack/codec/Codec$Alignment" "BIT" "Lorg/lexpack/codec/Codec$Alignment;" (.ref c_BIT)) (E_c_BIT : Exa Z h0 c_BIT "org/lexpack/codec/Codec$Alignment") (F_bits_c_BIT : Fld Z h0 c_BIT "org/lexpack/codec/Codec$Alignment" "bits" "I" (.int (1 : Int32))) (hc8 : ¬ ((own_k p1) = (0 : Int32))) (hc26 : ¬ ((own_k p1) = (1 : Int32))) (hc56 : ¬ ((q2 - (q2 / (1 : Int64)) * (1 : Int64)) = (0 : Int64))) (hc74 : (own_holds q2 (1 : Int32)) = (0 : Int32)) :
    MetFree l x (head1 (Jvm.Cond.code x code maxLocals ret :: ws) room_1) (fun a U => a = #[(.int p1), (.long q2)] ∧ Z.Warmed39 U.vm ∧ U.heap = h0) (fun _ _ _ _ _ => True) (fun _ U o U' => ∃ v L, o = .returned v ∧ Q_rm0 Z p1 q2 c_BYTE c_WORD c_BIT h0 n0 v U'.heap L ∧ FrameEnd U o U' L room_1.cells room_1.slots) := by
  refine MetFree.of_bodySF (plainFor_of_name pn_1) hisR ?_
  intro p e s m args below meth c s₁ Bd hml0 hP hK
  obtain ⟨rfl, hZ, hh⟩ := hP
  have hx := Bd.exec
  have hby := Bd.bytes
  have hml : c.maxLocals = 8 := hml0
  have hown : s.vm.findClass "org/lexpack/codec/AlignmentHoldsPinLaw" = some m.cls := findClass_of_methodNamed Bd.named
  have hnm := (name_of_methodNamed Bd.named Bd.method).1
  have X0 : Stand p l e room_1 s m #[(.int p1), (.long q2)] below meth c s₁ [] 0 0 := Stand.of_body Bd
  have e0 : s₁.heap = h0 := by rw [← hh, Bd.state]; rfl
  have N0 := Fr.nil n0
  have pre0 : ∀ t, Steps p.tables e below (s₁.setTop (mkF m 0 #[.val (.int p1), .val (.long q2), .second, .unset, .unset, .unset, .unset, .unset] [])) t → Steps p.tables e below (s₁.setTop (entryFrame m #[(.int p1), (.long q2)] maxLocals)) t := fun t k => castTop (ef_1 m p1 q2) k
  obtain ⟨T1, X1, e1, st1⟩ := getS2 X0 hx hZ hown (host := "") (Or.inl (hw _ (List.mem_of_getElem? (i := 15) rfl))) Via.refl e0 S_BIT_ (g := (mkF m 42 #[.val (.int p1), .val (.long q2), .second, .val (.int (own_k p1)), .unset, .unset, .unset, .unset] [])) rfl (hb hby at_42)
  obtain ⟨cq2, kq2, q2a, q2b, q2c⟩ := isOf hZ e1 E_c_BIT
  obtain ⟨_, _, ⟨T2, L2, k2, n2⟩, -, X2, ⟨Lc2, hQ2, l2, y2, z2⟩, st2⟩ := X1.virtualBack hx (y := (⟨"org/lexpack/codec/Codec$Alignment", "holds", "(J)Z"⟩ : MethodName)) (z := (⟨"org/lexpack/codec/Codec$Alignment", "holds", "(J)Z"⟩ : MethodName)) hown (mvT hZ (hw _ (List.mem_of_getElem? (i := 5) rfl))) (mvT hZ (hw _ (List.mem_of_getElem? (i := 6) rfl))) (notFace_of_selects (args := #[]) (mvT hZ (hw _ (List.mem_of_getElem? (i := 8) rfl)))) (mvT hZ (hw _ (List.mem_of_getElem? (i := 8) rfl))) (mvT hZ (hw _ (List.mem_of_getElem? (i := 7) rfl))) (by decide) (backOf (W := 0) (rmH l Z a0 hw [] c_BIT q2 (1 : Int32) h0 n0 Z0 F_bits_c_BIT) hZ (hw _ (List.mem_of_getElem? (i := 9) rfl)) (hw _ (List.mem_of_getElem? (i := 2) rfl)) (by decide) (by decide)) q2a q2c (g := (mkF m 69 #[.val (.int p1), .val (.long q2), .second, .val (.int (own_k p1)), .val (.ref c_BIT), .val (.long (1 : Int64)), .second, .val (.int (0 : Int32))] [(.long q2), (.ref c_BIT)])) rfl (by rw [hml]; rfl) (Steps.refl _) (argsL := [(.long q2)]) (rest := []) (lenOf pd_0 rfl) rfl (by show 2 * 0 + _ ≤ _; exact Nat.le_of_eq rfl) (hb hby at_69) (fun _ _ => ⟨rfl, e1, (by decide : 0 + 0 ≤ _), (by decide : 0 + 0 ≤ _)⟩)
  dsimp only [Pt.U, Pt.locs, Pt.cells, Pt.slots] at X2 l2 y2 z2 st2 hQ2
  subst l2 y2 z2
  obtain ⟨rfl, N2q, e2⟩ := hQ2
  have N2 := Fr.app N0 N2q
  obtain ⟨fs, hr, hrun, hended, hW, hsame⟩ := X2.leave (v := some (.int (1 : Int32))) (fun h => by rw [Bd.returns] at h; cases h)
  refine ⟨_, _, pre0 _ ?_, hrun, hended, _, _, rfl, ?_, ⟨_, rfl⟩, hW, hsame.mono (by decide) (by decide)⟩
  · show Steps p.tables e below (s₁.setTop (mkF m 0 #[.val (.int p1), .val (.long q2), .second, .unset, .unset, .unset, .unset, .unset] [])) _
    refine XS.iloadN X0.here hx rfl (hb hby at_0) rfl ?_
    show Steps p.tables e below (s₁.setTop (mkF m 1 #[.val (.int p1), .val (.long q2), .second, .unset, .unset, .unset, .unset, .unset] [(.int p1)])) _
    refine X0.ldcI hx hown (mvT hZ (hw _ (List.mem_of_getElem? (i := 0) rfl))) (g := (mkF m 1 #[.val (.int p1), .val (.long q2), .second, .unset, .unset, .unset, .unset, .unset] [(.int p1)])) rfl (hb hby at_1) ?_
    show Steps p.tables e below (s₁.setTop (mkF m 3 #[.val (.int p1), .val (.long q2), .second, .unset, .unset, .unset, .unset, .unset] [(.int (2147483647 : Int32)), (.int p1)])) _
    refine XS.iand X0.here hx rfl (hb hby at_3) rfl ?_
    show Steps p.tables e below (s₁.setTop (mkF m 4 #[.val (.int p1), .val (.long q2), .second, .unset, .unset, .unset, .unset, .unset] [(.int (p1 &&& (2147483647 : Int32)))])) _
    refine XS.iconst X0.here hx rfl (hb hby at_4) ?_
    show Steps p.tables e below (s₁.setTop (mkF m 5 #[.val (.int p1), .val (.long q2), .second, .unset, .unset, .unset, .unset, .unset] [(.int (3 : Int32)), (.int (p1 &&& (2147483647 : Int32)))])) _
    refine iremM X0 hx rfl (hb hby at_5) rfl (by decide) ?_
    show Steps p.tables e below (s₁.setTop (mkF m 6 #[.val (.int p1), .val (.long q2), .second, .unset, .unset, .unset, .unset, .unset] [(.int (own_k p1))])) _
    refine XS.istoreN X0.here hx rfl (hb hby at_6) rfl (l' := #[.val (.int p1), .val (.long q2), .second, .val (.int (own_k p1)), .unset, .unset, .unset, .unset]) rfl ?_
    show Steps p.tables e below (s₁.setTop (mkF m 7 #[.val (.int p1), .val (.long q2), .second, .val (.int (own_k p1)), .unset, .unset, .unset, .unset] [])) _
    refine XS.iloadN X0.here hx rfl (hb hby at_7) rfl ?_
    show Steps p.tables e below (s₁.setTop (mkF m 8 #[.val (.int p1), .val (.long q2), .second, .val (.int (own_k p1)), .unset, .unset, .unset, .unset] [(.int (own_k p1))])) _
    refine XS.ifYes X0.here hx rfl (pc0 := 8) (pc' := 24) rfl (hb hby at_8) rfl ((if0 _ _).trans (feq hc8).2) (by decide) (by decide) ?_
    show Steps p.tables e below (s₁.setTop (mkF m 24 #[.val (.int p1), .val (.long q2), .second, .val (.int (own_k p1)), .unset, .unset, .unset, .unset] [])) _
    refine XS.iloadN X0.here hx rfl (hb hby at_24) rfl ?_
    show Steps p.tables e below (s₁.setTop (mkF m 25 #[.val (.int p1), .val (.long q2), .second, .val (.int (own_k p1)), .unset, .unset, .unset, .unset] [(.int (own_k p1))])) _
    refine XS.iconst X0.here hx rfl (hb hby at_25) ?_
    show Steps p.tables e below (s₁.setTop (mkF m 26 #[.val (.int p1), .val (.long q2), .second, .val (.int (own_k p1)), .unset, .unset, .unset, .unset] [(.int (1 : Int32)), (.int (own_k p1))])) _
    refine XS.icmpYes X0.here hx rfl (pc0 := 26) (pc' := 42) rfl (hb hby at_26) rfl (feq hc26).2 (by decide) (by decide) ?_
    show Steps p.tables e below (s₁.setTop (mkF m 42 #[.val (.int p1), .val (.long q2), .second, .val (.int (own_k p1)), .unset, .unset, .unset, .unset] [])) _
    refine st1 _ ?_
    show Steps p.tables e below (T1.setTop (mkF m 45 #[.val (.int p1), .val (.long q2), .second, .val (.int (own_k p1)), .unset, .unset, .unset, .unset] [(.ref c_BIT)])) _
    refine XS.astore X1.here hx rfl (hb hby at_45) rfl rfl (l' := #[.val (.int p1), .val (.long q2), .second, .val (.int (own_k p1)), .val (.ref c_BIT), .unset, .unset, .unset]) rfl ?_
    show Steps p.tables e below (T1.setTop (mkF m 47 #[.val (.int p1), .val (.long q2), .second, .val (.int (own_k p1)), .val (.ref c_BIT), .unset, .unset, .unset] [])) _
    refine XS.lconst X1.here hx rfl (hb hby at_47) ?_
    show Steps p.tables e below (T1.setTop (mkF m 48 #[.val (.int p1), .val (.long q2), .second, .val (.int (own_k p1)), .val (.ref c_BIT), .unset, .unset, .unset] [(.long (1 : Int64))])) _
    refine XS.lstore X1.here hx rfl (hb hby at_48) rfl (l' := #[.val (.int p1), .val (.long q2), .second, .val (.int (own_k p1)), .val (.ref c_BIT), .val (.long (1 : Int64)), .second, .unset]) rfl ?_
    show Steps p.tables e below (T1.setTop (mkF m 50 #[.val (.int p1), .val (.long q2), .second, .val (.int (own_k p1)), .val (.ref c_BIT), .val (.long (1 : Int64)), .second, .unset] [])) _
    refine XS.lloadN X1.here hx rfl (hb hby at_50) rfl ?_
    show Steps p.tables e below (T1.setTop (mkF m 51 #[.val (.int p1), .val (.long q2), .second, .val (.int (own_k p1)), .val (.ref c_BIT), .val (.long (1 : Int64)), .second, .unset] [(.long q2)])) _
    refine XS.lload X1.here hx rfl (hb hby at_51) rfl ?_
    show Steps p.tables e below (T1.setTop (mkF m 53 #[.val (.int p1), .val (.long q2), .second, .val (.int (own_k p1)), .val (.ref c_BIT), .val (.long (1 : Int64)), .second, .unset] [(.long (1 : Int64)), (.long q2)])) _
    refine XS.lrem X1.here hx rfl (hb hby at_53) rfl (by decide) ?_
    show Steps p.tables e below (T1.setTop (mkF m 54 #[.val (.int p1), .val (.long q2), .second, .val (.int (own_k p1)), .val (.ref c_BIT), .val (.long (1 : Int64)), .second, .unset] [(.long (q2 - (q2 / (1 : Int64)) * (1 : Int64)))])) _
    refine XS.lconst X1.here hx rfl (hb hby at_54) ?_
    show Steps p.tables e below (T1.setTop (mkF m 55 #[.val (.int p1), .val (.long q2), .second, .val (.int (own_k p1)), .val (.ref c_BIT), .val (.long (1 : Int64)), .second, .unset] [(.long (0 : Int64)), (.long (q2 - (q2 / (1 : Int64)) * (1 : Int64)))])) _
    refine XS.lcmp X1.here hx rfl (hb hby at_55) rfl ?_
    show Steps p.tables e below (T1.setTop (mkF m 56 #[.val (.int p1), .val (.long q2), .second, .val (.int (own_k p1)), .val (.ref c_BIT), .val (.long (1 : Int64)), .second, .unset] [(.int (lcmpW (q2 - (q2 / (1 : Int64)) * (1 : Int64)) (0 : Int64)))])) _
    refine XS.ifYes X1.here hx rfl (pc0 := 56) (pc' := 63) rfl (hb hby at_56) rfl ((if0 _ _).trans (feq (mt (lw_eq (q2 - (q2 / (1 : Int64)) * (1 : Int64)) (0 : Int64)).mp hc56)).2) (by decide) (by decide) ?_
    show Steps p.tables e below (T1.setTop (mkF m 63 #[.val (.int p1), .val (.long q2), .second, .val (.int (own_k p1)), .val (.ref c_BIT), .val (.long (1 : Int64)), .second, .unset] [])) _
    refine XS.iconst X1.here hx rfl (hb hby at_63) ?_
    show Steps p.tables e below (T1.setTop (mkF m 64 #[.val (.int p1), .val (.long q2), .second, .val (.int (own_k p1)), .val (.ref c_BIT), .val (.long (1 : Int64)), .second, .unset] [(.int (0 : Int32))])) _
    refine XS.istore X1.here hx rfl (hb hby at_64) rfl (l' := #[.val (.int p1), .val (.long q2), .second, .val (.int (own_k p1)), .val (.ref c_BIT), .val (.long (1 : Int64)), .second, .val (.int (0 : Int32))]) rfl ?_
    show Steps p.tables e below (T1.setTop (mkF m 66 #[.val (.int p1), .val (.long q2), .second, .val (.int (own_k p1)), .val (.ref c_BIT), .val (.long (1 : Int64)), .second, .val (.int (0 : Int32))] [])) _
    refine XS.aload X1.here hx rfl (hb hby at_66) rfl rfl ?_
    show Steps p.tables e below (T1.setTop (mkF m 68 #[.val (.int p1), .val (.long q2), .second, .val (.int (own_k p1)), .val (.ref c_BIT), .val (.long (1 : Int64)), .second, .val (.int (0 : Int32))] [(.ref c_BIT)])) _
    refine XS.lloadN X1.here hx rfl (hb hby at_68) rfl ?_
    show Steps p.tables e below (T1.setTop (mkF m 69 #[.val (.int p1), .val (.long q2), .second, .val (.int (own_k p1)), .val (.ref c_BIT), .val (.long (1 : Int64)), .second, .val (.int (0 : Int32))] [(.long q2), (.ref c_BIT)])) _
    refine st2.trans ?_
    show Steps p.tables e below (T2.setTop (mkF m 72 #[.val (.int p1), .val (.long q2), .second, .val (.int (own_k p1)), .val (.ref c_BIT), .val (.long (1 : Int64)), .second, .val (.int (0 : Int32))] [(.int (own_holds q2 (1 : Int32)))])) _
    refine XS.iload X2.here hx rfl (hb hby at_72) rfl ?_
    show Steps p.tables e below (T2.setTop (mkF m 74 #[.val (.int p1), .val (.long q2), .second, .val (.int (own_k p1)), .val (.ref c_BIT), .val (.long (1 : Int64)), .second, .val (.int (0 : Int32))] [(.int (0 : Int32)), (.int (own_holds q2 (1 : Int32)))])) _
    refine XS.icmpNo X2.here hx rfl (hb hby at_74) rfl (teq hc74).2 ?_
    show Steps p.tables e below (T2.setTop (mkF m 77 #[.val (.int p1), .val (.long q2), .second, .val (.int (own_k p1)), .val (.ref c_BIT), .val (.long (1 : Int64)), .second, .val (.int (0 : Int32))] [])) _
    refine XS.iconst X2.here hx rfl (hb hby at_77) ?_
    show Steps p.tables e below (T2.setTop (mkF m 78 #[.val (.int p1), .val (.long q2), .second, .val (.int (own_k p1)), .val (.ref c_BIT), .val (.long (1 : Int64)), .second, .val (.int (0 : Int32))] [(.int (1 : Int32))])) _
    refine XS.goto X2.here hx rfl (pc0 := 78) (pc' := 82) rfl (hb hby at_78) (by decide) (by decide) ?_
    show Steps p.tables e below (T2.setTop (mkF m 82 #[.val (.int p1), .val (.long q2), .second, .val (.int (own_k p1)), .val (.ref c_BIT), .val (.long (1 : Int64)), .second, .val (.int (0 : Int32))] [(.int (1 : Int32))])) _
    exact retN X2 hx (t := .boolean) Bd.returns (by simp) (hb hby at_82) hr
  · show Q_rm0 Z p1 q2 c_BYTE c_WORD c_BIT h0 n0 _ T2.heap _
    rw [e2]
    exact ⟨rfl, N2, rfl⟩
theorem rm0 (l : Launch) (Z : State) (a0 : Array Value) (hw : ∀ d ∈ tables_1, d.before a0 Z = true) (ws : List Jvm.Cond) (p1 : Int32) (q2 : Int64) (c_BYTE : Addr) (c_WORD : Addr) (c_BIT : Addr) (h0 : Heap) (n0 : Nat) (Z0 : n0 ≤ h0.size) (S_BYTE_ : Sta Z h0 "org/lexpack/codec/Codec$Alignment" "BYTE" "Lorg/lexpack/codec/Codec$Alignment;" (.ref c_BYTE)) (E_c_BYTE : Exa Z h0 c_BYTE "org/lexpack/codec/Codec$Alignment") (F_bits_c_BYTE : Fld Z h0 c_BYTE "org/lexpack/codec/Codec$Alignment" "bits" "I" (.int (8 : Int32))) (S_WORD_ : Sta Z h0 "org/lexpack/codec/Codec$Alignment" "WORD" "Lorg/lexpack/codec/Codec$Alignment;" (.ref c_WORD)) (E_c_WORD : Exa Z h0 c_WORD "org/lexpack/codec/Codec$Alignment") (F_bits_c_WORD : Fld Z h0 c_WORD "org/lexpack/codec/Codec$Alignment" "bits" "I" (.int (32 : Int32))) (S_BIT_ : Sta Z h0 "org/lexpack/codec/Codec$Alignment" "BIT" "Lorg/lexpack/codec/Codec$Alignment;" (.ref c_BIT)) (E_c_BIT : Exa Z h0 c_BIT "org/lexpack/codec/Codec$Alignment") (F_bits_c_BIT : Fld Z h0 c_BIT "org/lexpack/codec/Codec$Alignment" "bits" "I" (.int (1 : Int32))) :
    MetFree l x (head1 (Jvm.Cond.code x code maxLocals ret :: ws) room_1) (fun a U => a = #[(.int p1), (.long q2)] ∧ Z.Warmed39 U.vm ∧ U.heap = h0) (fun _ _ _ _ _ => True) (fun _ U o U' => ∃ v L, o = .returned v ∧ Q_rm0 Z p1 q2 c_BYTE c_WORD c_BIT h0 n0 v U'.heap L ∧ FrameEnd U o U' L room_1.cells room_1.slots) := by
  by_cases hc8 : (own_k p1) = (0 : Int32)
  · skip
    by_cases hc56 : (q2 - (q2 / (8 : Int64)) * (8 : Int64)) = (0 : Int64)
    · skip
      by_cases hc74 : (own_holds q2 (8 : Int32)) = (1 : Int32)
      · skip
        exact rm0_ttt l Z a0 hw ws p1 q2 c_BYTE c_WORD c_BIT h0 n0 Z0 S_BYTE_ E_c_BYTE F_bits_c_BYTE S_WORD_ E_c_WORD F_bits_c_WORD S_BIT_ E_c_BIT F_bits_c_BIT hc8 hc56 hc74
      · skip
        exfalso
        exact hc74 (by rw [own_law q2 8 8 3 (by decide) (by decide) (by decide), if_pos hc56])
    · skip
      by_cases hc74 : (own_holds q2 (8 : Int32)) = (0 : Int32)
      · skip
        exact rm0_tft l Z a0 hw ws p1 q2 c_BYTE c_WORD c_BIT h0 n0 Z0 S_BYTE_ E_c_BYTE F_bits_c_BYTE S_WORD_ E_c_WORD F_bits_c_WORD S_BIT_ E_c_BIT F_bits_c_BIT hc8 hc56 hc74
      · skip
        exfalso
        exact hc74 (by rw [own_law q2 8 8 3 (by decide) (by decide) (by decide), if_neg hc56])
  · skip
    by_cases hc26 : (own_k p1) = (1 : Int32)
    · skip
      by_cases hc56 : (q2 - (q2 / (32 : Int64)) * (32 : Int64)) = (0 : Int64)
      · skip
        by_cases hc74 : (own_holds q2 (32 : Int32)) = (1 : Int32)
        · skip
          exact rm0_fttt l Z a0 hw ws p1 q2 c_BYTE c_WORD c_BIT h0 n0 Z0 S_BYTE_ E_c_BYTE F_bits_c_BYTE S_WORD_ E_c_WORD F_bits_c_WORD S_BIT_ E_c_BIT F_bits_c_BIT hc8 hc26 hc56 hc74
        · skip
          exfalso
          exact hc74 (by rw [own_law q2 32 32 5 (by decide) (by decide) (by decide), if_pos hc56])
      · skip
        by_cases hc74 : (own_holds q2 (32 : Int32)) = (0 : Int32)
        · skip
          exact rm0_ftft l Z a0 hw ws p1 q2 c_BYTE c_WORD c_BIT h0 n0 Z0 S_BYTE_ E_c_BYTE F_bits_c_BYTE S_WORD_ E_c_WORD F_bits_c_WORD S_BIT_ E_c_BIT F_bits_c_BIT hc8 hc26 hc56 hc74
        · skip
          exfalso
          exact hc74 (by rw [own_law q2 32 32 5 (by decide) (by decide) (by decide), if_neg hc56])
    · skip
      by_cases hc56 : (q2 - (q2 / (1 : Int64)) * (1 : Int64)) = (0 : Int64)
      · skip
        by_cases hc74 : (own_holds q2 (1 : Int32)) = (1 : Int32)
        · skip
          exact rm0_fftt l Z a0 hw ws p1 q2 c_BYTE c_WORD c_BIT h0 n0 Z0 S_BYTE_ E_c_BYTE F_bits_c_BYTE S_WORD_ E_c_WORD F_bits_c_WORD S_BIT_ E_c_BIT F_bits_c_BIT hc8 hc26 hc56 hc74
        · skip
          exfalso
          exact hc74 (by rw [own_law q2 1 1 0 (by decide) (by decide) (by decide), if_pos hc56])
      · skip
        by_cases hc74 : (own_holds q2 (1 : Int32)) = (0 : Int32)
        · skip
          exact rm0_ffft l Z a0 hw ws p1 q2 c_BYTE c_WORD c_BIT h0 n0 Z0 S_BYTE_ E_c_BYTE F_bits_c_BYTE S_WORD_ E_c_WORD F_bits_c_WORD S_BIT_ E_c_BIT F_bits_c_BIT hc8 hc26 hc56 hc74
        · skip
          exfalso
          exact hc74 (by rw [own_law q2 1 1 0 (by decide) (by decide) (by decide), if_neg hc56])
set_option maxRecDepth 65536 in
set_option maxHeartbeats 40000000 in
theorem comes_1 {Post : Tables → Env → Array Value → State → Outcome → State → Prop} (hpost : ∀ tb e args s v u, (limb_1_1.after args s (.returned v) u = true ∧ limb_1_2.after args s (.returned v) u = true ∧ True) → FrameEnd s (.returned v) u (Jvm.fieldLocs frame_1_writes args s ++ Jvm.arrayLocs frame_1_arrays args s ++ Jvm.staticLocs frame_1_statics s) 0 0 → Post tb e args s (.returned v) u) :
    ArmFor flags0 classFile x code maxLocals ret World_1 tables_1 room_1 Calls_1 rest_1 Pre_1 Post := by
  intro l hfl _ _ p e ha hc hk s m args below hf hA hF happ hP
  obtain ⟨hcalls, hrest, hpre⟩ := hP
  obtain ⟨-, -, -, hnamed, -, -, -, hat⟩ := (Spec.applies_iff hf).mp happ
  obtain ⟨hg, hn⟩ := and_e (Cond.before_iff.mp (show (Jvm.Cond.and given_1 narrow_1).before args s = true from hpre))
  obtain ⟨g0, gr0⟩ := and_e hg
  obtain ⟨g1, gr1⟩ := and_e gr0
  obtain ⟨w0, w1, rfl⟩ : ∃ w0 w1 : Value, args = #[w0, w1] := by
    have hs : args.size = 2 := by simpa [Cond.value, given_1] using g0
    obtain ⟨L⟩ := args
    match L, hs with
    | [w0, w1], _ => exact ⟨w0, w1, rfl⟩
  have hw := fun d (hd : d ∈ tables_1) => atoms_spec (ws := Jvm.Cond.code x code maxLocals ret :: tables_1) hat d (List.mem_cons_of_mem _ hd)
  have hfit : Fit s := fun {y c} hc i hi => by
    obtain ⟨ha, rfl⟩ := Array.getElem?_eq_some_iff.mp hc
    have q := List.all_eq_true.mp ((Array.all_eq_true_iff_forall_mem.mp hF) _ (Array.getElem_mem ha)) i (List.mem_range.mpr hi)
    simpa [Array.getElem?_eq_getElem hi] using q
  obtain ⟨i0, ei0⟩ := is_v g1
  obtain rfl : w0 = (.int i0) := Option.some.inj ei0
  obtain ⟨i1, ei1⟩ := isL_v gr1
  obtain rfl : w1 = (.long i1) := Option.some.inj ei1
  obtain ⟨n1, nr1⟩ := and_e hn
  obtain ⟨n2, nr2⟩ := and_e nr1
  obtain ⟨n3, nr3⟩ := and_e nr2
  obtain ⟨n4, nr4⟩ := and_e nr3
  obtain ⟨n5, nr5⟩ := and_e nr4
  obtain ⟨c_BYTE, ev_BYTE⟩ := exa_v n1
  have E_BYTE := Exa.start ev_BYTE n1
  have S_BYTE := Sta.start ev_BYTE (Or.inr ⟨(hw _ (List.mem_of_getElem? (i := 2) rfl)), (hw _ (List.mem_of_getElem? (i := 3) rfl))⟩)
  obtain ⟨c_WORD, ev_WORD⟩ := exa_v n3
  have E_WORD := Exa.start ev_WORD n3
  have S_WORD := Sta.start ev_WORD (Or.inr ⟨(hw _ (List.mem_of_getElem? (i := 2) rfl)), (hw _ (List.mem_of_getElem? (i := 13) rfl))⟩)
  obtain ⟨c_BIT, ev_BIT⟩ := exa_v n5
  have E_BIT := Exa.start ev_BIT n5
  have S_BIT := Sta.start ev_BIT (Or.inr ⟨(hw _ (List.mem_of_getElem? (i := 2) rfl)), (hw _ (List.mem_of_getElem? (i := 16) rfl))⟩)
  have F_bits_BYTE := Fld.start (own_eqf n2 ev_BYTE)
  have F_bits_WORD := Fld.start (own_eqf n4 ev_WORD)
  have F_bits_BIT := Fld.start (own_eqf nr5 ev_BIT)
  obtain ⟨n, o, h1, h2, h3, _, L, rfl, ⟨rfl, N, -⟩, hq⟩ := rm0 l s _ hw tables_1 i0 i1 c_BYTE c_WORD c_BIT s.heap s.heap.size (Nat.le_refl _) S_BYTE E_BYTE F_bits_BYTE S_WORD E_WORD F_bits_WORD S_BIT E_BIT F_bits_BIT p e ha hc hk s m _ below hf ((Spec.applies_iff_loose hf).mp happ).1 ⟨rfl, State.Warmed39.refl s, rfl⟩ trivial
  refine ⟨n, _, h1, h2, h3, hpost _ _ _ _ _ _ ⟨Cond.after_iff.mpr rfl, Cond.after_iff.mpr (eq_i res_at (Term.int_eval (1)) rfl), trivial⟩ ⟨hq.1, hq.2.1, (hq.2.2.sift fun y hy => Or.inr (N y hy)).mono (by decide) (by decide)⟩⟩
theorem main_1_1 : Claimed_1_1 := comes_1 fun _ _ _ _ _ _ h hF => ⟨h.1, hF⟩
theorem main_1_2 : Claimed_1_2 := comes_1 fun _ _ _ _ _ _ h hF => ⟨h.2.1, hF⟩
end Jvm.Pilot.@@N@@
namespace Jvm.Pilot.@@N@@
open Jvm Jvm.ClassFile Sem Op Lib Jvm.Free Jvm.Stand Jvm.Pilot.@@N@@.Jvm.D
/-! MADE BY PROGRAM (witnessworld.py) out of the Statement's table words and the real class files: 12 classes; the members and pool entries that the words name. The judged class is class 1, her method 1. -/
namespace start1
open Jvm.ClassFile
def u (s : String) : CpInfo := .utf8 (stringToUtf16 s)
/-- a pool by its gaps: so many unusable entries, then the entry; so many at the end -/
def gap : Nat → List CpInfo → List CpInfo
  | 0, r => r
  | n + 1, r => .unusable :: gap n r
def poolList (es : List (Nat × CpInfo)) (last : Nat) : List CpInfo := es.foldr (fun e r => gap e.1 (e.2 :: r)) (gap last [])
def pool (es : List (Nat × CpInfo)) (last : Nat) : Array CpInfo := ⟨poolList es last⟩
def fileOf (pool : Array CpInfo) (this : Nat) (attrs : Array Attribute := #[]) (ms : Array MethodInfo := #[]) (fl : Nat := 33) (sup : Nat := 0) (ifs : Array Nat := #[]) (fds : Array FieldInfo := #[]) : ClassFile where
  minorVersion := 0
  majorVersion := 65
  constantPool := pool
  accessFlags := fl
  thisClass := this
  superClass := sup
  interfaces := ifs
  fields := fds
  methods := ms
  attributes := attrs
def plain (name : String) (sup : Option ClassId) : Class where
  name := name
  kind := .ordinary
  loader := none
  accessFlags := 33
  super := sup
  interfaces := #[]
  cf := none
  fields := #[]
  methods := #[]
  instanceTypes := #[]
  staticTypes := #[]
  resolved := #[]
  callSites := []
  init := .initialized
  statics := none
  mirror := none

def pool0 : Array CpInfo := pool [(5, u "<init>"), (0, u "()V"), (1, .class_ 10), (1, u "java/lang/Object")] 113

def k0m0 : Method := { name := "<init>", desc := "()V", sig := { parameters := [], returnType := none }, accessFlags := 1, code := none }
/-- java/lang/Object -/
def k0 : Class := { plain "java/lang/Object" none with
  accessFlags := 33
  interfaces := #[]
  cf := some (fileOf pool0 8 #[] #[{ accessFlags := 1, nameIndex := 5, descriptorIndex := 6, attributes := #[] }] 33 0 #[] #[])
  fields := #[]
  methods := #[k0m0]
  instanceTypes := #[]
  staticTypes := #[]
  resolved := Array.replicate 124 none
  statics := none }

def pool1 : Array CpInfo := pool [(2, .class_ 4), (1, u "java/lang/Object"), (0, u "<init>"), (0, u "()V"), (0, .integer 2147483647), (0, .fieldref 9 10), (0, .class_ 11), (0, .nameAndType 12 13), (0, u "org/lexpack/codec/Codec$Alignment"), (0, u "BYTE"), (0, u "Lorg/lexpack/codec/Codec$Alignment;"), (0, .long 8), (1, .fieldref 9 17), (0, .nameAndType 18 13), (0, u "WORD"), (0, .long 32), (1, .fieldref 9 22), (0, .nameAndType 23 13), (0, u "BIT"), (0, .methodref 9 25), (0, .nameAndType 26 27), (0, u "holds"), (0, u "(J)Z"), (0, .class_ 29), (0, u "org/lexpack/codec/AlignmentHoldsPinLaw"), (2, u "law"), (0, u "(IJ)Z")] 7

def k1m0 : Method := { name := "<init>", desc := "()V", sig := { parameters := [], returnType := none }, accessFlags := 2, code := none }
def k1c1 : Code := { maxStack := 4, maxLocals := 8, code := code, exceptionTable := #[], attributes := #[] }
def k1m1 : Method := { name := "law", desc := "(IJ)Z", sig := { parameters := [.int, .long], returnType := some .boolean }, accessFlags := 9, code := some k1c1 }
/-- org/lexpack/codec/AlignmentHoldsPinLaw -/
def k1 : Class := { plain "org/lexpack/codec/AlignmentHoldsPinLaw" (some 0) with
  accessFlags := 49
  interfaces := #[]
  cf := some (fileOf pool1 28 #[] #[{ accessFlags := 2, nameIndex := 5, descriptorIndex := 6, attributes := #[] }, { accessFlags := 9, nameIndex := 32, descriptorIndex := 33, attributes := #[] }] 49 2 #[] #[])
  fields := #[]
  methods := #[k1m0, k1m1]
  instanceTypes := #[]
  staticTypes := #[]
  resolved := Array.replicate 41 none
  statics := none }

def pool2 : Array CpInfo := pool [(1, .class_ 2), (0, u "java/lang/constant/Constable"), (0, .class_ 4), (0, u "java/lang/Object")] 6

/-- java/lang/constant/Constable -/
def k2 : Class := { plain "java/lang/constant/Constable" (some 0) with
  accessFlags := 1537
  interfaces := #[]
  cf := some (fileOf pool2 1 #[] #[] 1537 3 #[] #[])
  fields := #[]
  methods := #[]
  instanceTypes := #[]
  staticTypes := #[]
  resolved := Array.replicate 11 none
  statics := none }

def pool3 : Array CpInfo := pool [(1, .class_ 2), (0, u "java/lang/Comparable"), (0, .class_ 4), (0, u "java/lang/Object")] 7

/-- java/lang/Comparable -/
def k3 : Class := { plain "java/lang/Comparable" (some 0) with
  accessFlags := 1537
  interfaces := #[]
  cf := some (fileOf pool3 1 #[] #[] 1537 3 #[] #[])
  fields := #[]
  methods := #[]
  instanceTypes := #[]
  staticTypes := #[]
  resolved := Array.replicate 12 none
  statics := none }

def pool4 : Array CpInfo := pool [(1, .class_ 2), (0, u "java/io/Serializable"), (0, .class_ 4), (0, u "java/lang/Object")] 2

/-- java/io/Serializable -/
def k4 : Class := { plain "java/io/Serializable" (some 0) with
  accessFlags := 1537
  interfaces := #[]
  cf := some (fileOf pool4 1 #[] #[] 1537 3 #[] #[])
  fields := #[]
  methods := #[]
  instanceTypes := #[]
  staticTypes := #[]
  resolved := Array.replicate 7 none
  statics := none }

def pool5 : Array CpInfo := pool [(2, .class_ 4), (1, u "java/lang/Enum"), (0, u "name"), (0, u "Ljava/lang/String;"), (2, u "ordinal"), (0, u "I"), (1, .class_ 14), (1, u "java/lang/Object"), (4, u "hash"), (86, .class_ 108), (1, u "java/lang/Enum$EnumDesc"), (2, .class_ 112), (0, u "java/lang/constant/Constable"), (0, .class_ 114), (0, u "java/lang/Comparable"), (0, .class_ 116), (0, u "java/io/Serializable")] 87

/-- java/lang/Enum -/
def k5 : Class := { plain "java/lang/Enum" (some 0) with
  accessFlags := 1057
  interfaces := #[2, 3, 4]
  cf := some (fileOf pool5 2 #[.nestMembers #[106]] #[] 1057 12 #[111, 113, 115] #[{ accessFlags := 18, nameIndex := 5, descriptorIndex := 6, attributes := #[] }, { accessFlags := 18, nameIndex := 9, descriptorIndex := 10, attributes := #[] }, { accessFlags := 2, nameIndex := 19, descriptorIndex := 10, attributes := #[] }])
  fields := #[{ name := "name", type := (.object "java/lang/String"), accessFlags := 18, slot := 0, constantValue := 0 }, { name := "ordinal", type := .int, accessFlags := 18, slot := 1, constantValue := 0 }, { name := "hash", type := .int, accessFlags := 2, slot := 2, constantValue := 0 }]
  methods := #[]
  instanceTypes := #[(.object "java/lang/String"), .int, .int]
  staticTypes := #[]
  resolved := Array.replicate 204 none
  statics := none }

def pool6 : Array CpInfo := pool [(1, .class_ 2), (0, u "org/lexpack/codec/Codec$Alignment"), (2, u "BYTE"), (0, u "Lorg/lexpack/codec/Codec$Alignment;"), (2, u "WORD"), (2, u "BIT"), (2, u "$VALUES"), (0, u "[Lorg/lexpack/codec/Codec$Alignment;"), (6, .class_ 25), (1, u "java/lang/Enum"), (6, .fieldref 1 33), (0, .nameAndType 34 35), (0, u "bits"), (0, u "I"), (2, u "unit"), (0, u "Ljava/lang/String;"), (29, u "holds"), (0, u "(J)Z"), (7, .class_ 79), (0, u "org/lexpack/codec/Codec")] 2

def k6c0 : Code := { maxStack := 4, maxLocals := 3, code := prog_26_method_6_code, exceptionTable := #[], attributes := #[] }
def k6m0 : Method := { name := "holds", desc := "(J)Z", sig := { parameters := [.long], returnType := some .boolean }, accessFlags := 0, code := some k6c0 }
/-- org/lexpack/codec/Codec$Alignment -/
def k6 : Class := { plain "org/lexpack/codec/Codec$Alignment" (some 5) with
  accessFlags := 16433
  interfaces := #[]
  cf := some (fileOf pool6 1 #[.nestHost 78] #[{ accessFlags := 0, nameIndex := 69, descriptorIndex := 70, attributes := #[] }] 16433 23 #[] #[{ accessFlags := 16409, nameIndex := 5, descriptorIndex := 6, attributes := #[] }, { accessFlags := 16409, nameIndex := 9, descriptorIndex := 6, attributes := #[] }, { accessFlags := 16409, nameIndex := 12, descriptorIndex := 6, attributes := #[] }, { accessFlags := 18, nameIndex := 34, descriptorIndex := 35, attributes := #[] }, { accessFlags := 18, nameIndex := 38, descriptorIndex := 39, attributes := #[] }, { accessFlags := 4122, nameIndex := 15, descriptorIndex := 16, attributes := #[] }])
  fields := #[{ name := "BYTE", type := (.object "org/lexpack/codec/Codec$Alignment"), accessFlags := 16409, slot := 0, constantValue := 0 }, { name := "WORD", type := (.object "org/lexpack/codec/Codec$Alignment"), accessFlags := 16409, slot := 1, constantValue := 0 }, { name := "BIT", type := (.object "org/lexpack/codec/Codec$Alignment"), accessFlags := 16409, slot := 2, constantValue := 0 }, { name := "bits", type := .int, accessFlags := 18, slot := 3, constantValue := 0 }, { name := "unit", type := (.object "java/lang/String"), accessFlags := 18, slot := 4, constantValue := 0 }, { name := "$VALUES", type := (.array (.object "org/lexpack/codec/Codec$Alignment")), accessFlags := 4122, slot := 3, constantValue := 0 }]
  methods := #[k6m0]
  instanceTypes := #[(.object "java/lang/String"), .int, .int, .int, (.object "java/lang/String")]
  staticTypes := #[(.object "org/lexpack/codec/Codec$Alignment"), (.object "org/lexpack/codec/Codec$Alignment"), (.object "org/lexpack/codec/Codec$Alignment"), (.array (.object "org/lexpack/codec/Codec$Alignment"))]
  resolved := Array.replicate 82 none
  statics := some 0 }

def pool7 : Array CpInfo := pool [(1, u "java/lang/Cloneable"), (0, .class_ 1), (0, u "java/lang/Object"), (0, .class_ 3)] 3

/-- java/lang/Cloneable -/
def k7 : Class := { plain "java/lang/Cloneable" (some 0) with
  accessFlags := 1537
  interfaces := #[]
  cf := some (fileOf pool7 2 #[] #[] 1537 4 #[] #[])
  fields := #[]
  methods := #[]
  instanceTypes := #[]
  staticTypes := #[]
  resolved := Array.replicate 8 none
  statics := none }

/-- the primitive byte -/
def k8 : Class := { plain "byte" none with kind := .primitive 'B', accessFlags := 0x411 }
/-- [B -/
def k9 : Class := { plain "[B" (some 0) with kind := .array 8 .byte, interfaces := #[7, 4], accessFlags := 1041 }

/-- the primitive int -/
def k10 : Class := { plain "int" none with kind := .primitive 'I', accessFlags := 0x411 }
/-- [I -/
def k11 : Class := { plain "[I" (some 0) with kind := .array 10 .int, interfaces := #[7, 4], accessFlags := 1041 }

def heap : Heap := #[{ cls := 6, slots := #[.ref 1, .ref 2, .ref 3, .null], vm := .statics 6 },
  { cls := 6, slots := #[.null, .int 0, .int 0, .int 8, .null], vm := .none },
  { cls := 6, slots := #[.null, .int 1, .int 0, .int 32, .null], vm := .none },
  { cls := 6, slots := #[.null, .int 2, .int 0, .int 1, .null], vm := .none }]
def classes : Array Class := #[k0, k1, k2, k3, k4, k5, k6, k7, k8, k9, k10, k11]
def interned : List (Array UInt16 × Addr) := []
def slotsUsed : Nat := 19
def theMethod : MethodId := ⟨1, 1⟩
def args0 : Array Value := #[.int 5, .long 64]
def aboutOver (below : List Frame) : State where
  vm := { classes := classes, interned := interned.toArray }
  heap := heap
  slotsUsed := slotsUsed
  threads := #[{ frames := .invoking theMethod args0 :: below }]
def below0 : List Frame := [.native { method := ⟨0, 0⟩, args := #[] }]
def about1 : State := aboutOver below0
def p0 : Program := .bare "" "" ""
def e0 : Env := launch0.env 0 0 0
theorem w_frames : about1.frames = Frame.invoking theMethod args0 :: below0 := rfl
set_option maxRecDepth 65536 in
theorem w_args : argsFit about1.vm theMethod args0 = true := by decide +kernel
set_option maxRecDepth 65536 in
theorem w_heap : heapFits about1 = true := by decide +kernel
set_option maxRecDepth 65536 in
theorem w_runnable : about1.curStatus? = some .runnable := by decide +kernel
set_option maxRecDepth 65536 in
theorem w_alone : about1.alone = true := by decide +kernel
set_option maxRecDepth 65536 in
theorem w_named : about1.methodNamed? x = some theMethod := by decide +kernel
set_option maxRecDepth 65536 in
theorem w_hears : about1.hears theMethod below0 = true := by decide +kernel
set_option maxRecDepth 65536 in
theorem w_ripe : about1.ripe theMethod args0 below0 = true := by decide +kernel
theorem w_running : about1.status = .running := rfl
set_option maxRecDepth 65536 in
theorem w_room : about1.hasRoom e0.platform room_1 = true :=
  launch0.hasRoom_least _ room_1 (by decide +kernel) (by decide +kernel) (by decide +kernel) (by decide +kernel) (by decide +kernel) (by decide +kernel)
theorem allAtoms_all (ts : List Jvm.Cond) (a : Array Jvm.Value) (st : Jvm.State) : (allAtoms ts).before a st = ts.all (fun c => c.before a st) := by
  induction ts with
  | nil => rfl
  | cons c t ih =>
    show (Jvm.Cond.and c (allAtoms t)).before a st = _
    rw [Jvm.Cond.before_and, ih, List.all_cons]
def words1 : List Jvm.Cond := Jvm.Cond.code x code maxLocals ret :: tables_1
/-- a 'code' word, met by the world's own term for the bytes: nothing is compared byte by byte -/
theorem code_word {y : MethodName} {bytes : ByteArray} {mx : Nat} {rt : Option FieldType} {a : Array Value} {s : State} {m : MethodId} {meth : Method} {c : Code} (h1 : s.methodNamed? y = some m) (h2 : s.vm.method? m = some meth) (h3 : meth.code = some c) (h4 : c.code = bytes)
    (h5 : (c.maxLocals == mx && c.exceptionTable.isEmpty && decide (c.maxStack ≤ mostOperands) && decide (meth.sig.returnType = rt) && !meth.locks && decide (parseMethodDescriptor y.desc = some meth.sig)) = true) : (Jvm.Cond.code y bytes mx rt).before a s = true := by
  simp only [Bool.and_eq_true, beq_iff_eq, Bool.not_eq_true', decide_eq_true_eq] at h5
  obtain ⟨⟨⟨⟨⟨g1, g2⟩, g3⟩, g4⟩, g5⟩, g6⟩ := h5
  simp [Cond.before, Cond.holds, Cond.value, h1, h2, h3, h4, g1, g2, g3, g4, g5, g6]
def isCode : Jvm.Cond → Bool
  | .code _ _ _ _ => true
  | _ => false
theorem all_split {L : List Jvm.Cond} {P : Jvm.Cond → Bool} (h1 : L.all (fun c => isCode c || P c) = true) (h2 : ∀ c ∈ L.filter isCode, P c = true) : L.all P = true := by
  refine List.all_eq_true.mpr fun c hc => ?_
  have h := List.all_eq_true.mp h1 c hc
  rcases Bool.eq_false_or_eq_true (isCode c) with hi | hi
  · exact h2 c (List.mem_filter.mpr ⟨hc, hi⟩)
  · simpa [hi] using h
set_option maxRecDepth 65536 in
theorem w_c0 : (Jvm.Cond.code x code maxLocals ret).before args0 about1 = true := code_word (m := ⟨1, 1⟩) (meth := k1m1) (c := k1c1) (by decide +kernel) rfl rfl rfl (by decide +kernel)
set_option maxRecDepth 65536 in
theorem w_c1 : (Jvm.Cond.code ({ cls := "org/lexpack/codec/Codec$Alignment", name := "holds", desc := "(J)Z" } : Jvm.MethodName) prog_26_method_6_code (3 : Nat) (Option.some Jvm.ClassFile.FieldType.boolean)).before args0 about1 = true := code_word (m := ⟨6, 0⟩) (meth := k6m0) (c := k6c0) (by decide +kernel) rfl rfl rfl (by decide +kernel)
def codes1 : List Jvm.Cond := [Jvm.Cond.code x code maxLocals ret, Jvm.Cond.code ({ cls := "org/lexpack/codec/Codec$Alignment", name := "holds", desc := "(J)Z" } : Jvm.MethodName) prog_26_method_6_code (3 : Nat) (Option.some Jvm.ClassFile.FieldType.boolean)]
set_option maxRecDepth 65536 in
theorem codes_eq : words1.filter isCode = codes1 := rfl
theorem w_codes : ∀ c ∈ words1.filter isCode, c.before args0 about1 = true := by
  rw [codes_eq]
  intro c hc
  simp only [codes1, List.mem_cons, List.not_mem_nil, or_false] at hc
  rcases hc with rfl | rfl
  · exact w_c0
  · exact w_c1
set_option maxRecDepth 65536 in
theorem w_t1 : words1.all (fun c => isCode c || c.before args0 about1) = true := by decide +kernel
theorem w_tables : (allAtoms (Jvm.Cond.code x code maxLocals ret :: tables_1)).before args0 about1 = true := by
  rw [allAtoms_all]
  show words1.all (fun c => c.before args0 about1) = true
  refine all_split ?_ w_codes
  rw [w_t1]
set_option maxRecDepth 65536 in
theorem w_case : (Jvm.Cond.and given_1 narrow_1).before args0 about1 = true := by decide +kernel
theorem w_applies : (headSpec (Jvm.Cond.code x code maxLocals ret :: tables_1) room_1).applies x e0.platform about1 = true :=
  (Spec.applies_iff w_frames).mpr ⟨w_running, w_runnable, w_alone, w_named, w_hears, w_ripe, w_room, w_tables⟩
theorem atStart : AtStart classFile x code maxLocals ret World_1 tables_1 room_1 Calls_1 rest_1 Pre_1 launch0 p0 e0 about1 theMethod args0 below0 :=
  ⟨lists_1, trivial, launch0.admits_env _ _ _, launch0.least_env, fairChoices_fair.cas, fairChoices_fair.clock, w_frames, w_args, w_heap, w_applies, trivial, trivial, w_case⟩
end start1
theorem witness_1 : WitnessClaimed_1 := ⟨start1.p0, start1.e0, start1.about1, start1.theMethod, start1.args0, start1.below0, start1.atStart⟩
end Jvm.Pilot.@@N@@
