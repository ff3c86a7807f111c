import JvmDerived
import JvmDerived.Pilot.@@N@@Statement
import JvmDerived.Pilot.@@N@@Code
set_option linter.unusedVariables false
set_option linter.unusedSimpArgs false
namespace Jvm.RoadKit
open Sem ClassFile Op Lib Jvm.Stand Jvm.Free Jvm.LawKit
section New
variable {p : Program} {l : Launch} {e : Env} {R : Room} {s : State} {m : MethodId} {args : Array Value} {below : List Frame} {meth : Method} {c : Code} {T : State} {locs : List Loc} {cells slots : Nat}
theorem retI (X : Stand p l e R s m args below meth c T locs cells slots) (hx : p.tables.exec = Jvm.exec) {pc : Nat} {Ls : Array Slot} {z : Int32} {rest : List Value} (hret : meth.sig.returnType = some .int) (hd : decode c.code pc = .ok (.ireturn, 1)) {fs : List Frame}
    (hl : ∀ (f : JFrame) (acts : List Action), f.method = m → f.locked = none → f.entered = [] → (doReturn e (T.setTop f) acts (some (.int z))).1 = T.setFrames fs) : Steps p.tables e below (T.setTop (mkF m pc Ls (.int z :: rest))) (T.setFrames fs) := by
  have hm' : T.vm.method? m = some meth := X.method'
  have hn : narrow .int (.int z) = .int z := rfl
  show Steps p.tables e below (T.setTop { method := m, pc := pc, locals := Ls, stack := _ :: rest, locked := none }) _
  jvm_step X.here [X.here.top, hx, hd, hm', hret, hn]
  first | (intro acts; rw [hl _ acts rfl rfl rfl]) | rw [hl _ _ rfl rfl rfl]
  exact Steps.refl _
theorem own_nar01 {z : Int32} (h : z = 0 ∨ z = 1) : narrow .boolean (.int z) = .int z := by rcases h with rfl | rfl <;> rfl
theorem own_fit01 {z : Int32} (h : z = 0 ∨ z = 1) : fits .boolean (.int z) = true := by rcases h with rfl | rfl <;> decide
theorem own_retZ (X : Stand p l e R s m args below meth c T locs cells slots) (hx : p.tables.exec = Jvm.exec) {pc : Nat} {Ls : Array Slot} {z : Int32} {rest : List Value} (hret : meth.sig.returnType = some .boolean) (hz : z = 0 ∨ z = 1) (hd : decode c.code pc = .ok (.ireturn, 1)) {fs : List Frame}
    (hl : ∀ (f : JFrame) (acts : List Action), f.method = m → f.locked = none → f.entered = [] → (doReturn e (T.setTop f) acts (some (.int z))).1 = T.setFrames fs) : Steps p.tables e below (T.setTop (mkF m pc Ls (.int z :: rest))) (T.setFrames fs) := by
  have hm' : T.vm.method? m = some meth := X.method'
  have hn : narrow .boolean (.int z) = .int z := own_nar01 hz
  show Steps p.tables e below (T.setTop { method := m, pc := pc, locals := Ls, stack := _ :: rest, locked := none }) _
  jvm_step X.here [X.here.top, hx, hd, hm', hret, hn]
  first | (intro acts; rw [hl _ acts rfl rfl rfl]) | rw [hl _ _ rfl rfl rfl]
  exact Steps.refl _
end New
section Own
variable {Z : State} {h h' : Heap} {C n d : String} {w : Value} {a : Addr}
theorem own_sta_keep (F : Sta Z h C n d w) {ws : List Addr} (K : Keep h h' ws) (q : ∀ (st : Addr) (cell : Cell), h[st]? = some cell → cell.vm.isStatics = true → st ∉ ws) : Sta Z h' C n d w := by
  obtain ⟨cf, i, k, f, st, cell, h1, h2, h3, h4, h5, h6, h7⟩ := F
  exact ⟨cf, i, k, f, st, cell, h1, h2, h3, h4, K.2.1 st cell h5 (q st cell h5 h6), h6, h7⟩
theorem own_eqf {args : Array Value} {s : State} {t : Term} {C n d : String} {k : Int32} {x : Addr} (h : (Jvm.Cond.eq (.field t C n d) (.int k)).value args s none s [] = some true) (ht : t.eval args s none [] s = some (.ref x)) : s.fieldOf? x C n d = some (.int k) := by
  simp only [Cond.value, Term.eval, ht, Option.bind_eq_bind, Option.bind_some] at h
  cases hv : s.fieldOf? x C n d with
  | none => simp [hv] at h
  | some v => cases v <;> simp_all
theorem own_eqL {args : Array Value} {s : State} {t : Term} {k : Int64} (h : (Jvm.Cond.eq t (.long k)).value args s none s [] = some true) : t.eval args s none [] s = some (.long k) := by
  simp only [Cond.value, Term.eval] at h
  cases hv : t.eval args s none [] s with
  | none => simp [hv] at h
  | some v => cases v <;> simp_all
theorem own_sta_keep0 (F : Sta Z h C n d w) (K : Keep h h' []) : Sta Z h' C n d w := own_sta_keep F K fun _ _ _ _ q => nomatch q
theorem own_sta_keep1 (F : Sta Z h C n d w) (K : Keep h h' [a]) {C' : String} (E : Exa Z h a C') : Sta Z h' C n d w := own_sta_keep F K fun st cell h1 h2 q => by
  cases List.mem_singleton.mp q
  obtain ⟨c2, _, g1, -, -, g4, -⟩ := E
  cases h1.symm.trans g1
  rw [h2] at g4; cases g4
end Own
end Jvm.RoadKit
namespace Jvm.Pilot.@@N@@
open Jvm Jvm.ClassFile Sem Op Lib Jvm.Free Jvm.Stand Jvm.LawKit Jvm.RoadKit Bundle Jvm.Pilot.@@N@@.Jvm.D
def own_b (p : Int32) : Int32 := (1 : Int32) + ((p &&& 2147483647) % 2147479552)
def own_r (p : Int32) : Int64 := (own_b p).toInt64 - ((own_b p).toInt64 / (4096 : Int64)) * (4096 : Int64)
def own_sized (p : Int32) : Int32 := if p < 16384 then p else ((p + 4096 - 1) / 4096) * 4096
theorem own_b_rng (p : Int32) : 1 ≤ (own_b p).toInt ∧ (own_b p).toInt ≤ 2147479552 := by
  have h1 : (p &&& 2147483647).toInt = p.toInt % (2 ^ 31 : Nat) := c_mask p 2147483647 31 (by decide) (by decide)
  have h2 := (c_irem (p &&& 2147483647) 2147479552 2147479552 (by decide)).1 (by omega)
  have h3 := c_iadd 1 ((p &&& 2147483647) % 2147479552)
  have h4 := rng32 ((1 : Int32) + ((p &&& 2147483647) % 2147479552))
  have h5 : (1 : Int32).toInt = 1 := by decide
  unfold own_b
  omega
theorem own_r_val (p : Int32) : (own_r p).toInt = (own_b p).toInt % 4096 := by
  have hb := own_b_rng p
  have h1 := c_i2l (own_b p)
  have h2 := (c_lrem (own_b p).toInt64 4096 4096 (by decide)).1 (by omega)
  unfold own_r
  omega
theorem own_sized_val (b : Int32) (h0 : 1 ≤ b.toInt) (h1 : b.toInt ≤ 2147479552) (hc : ¬ b < 16384) : (own_sized b).toInt = ((b.toInt + 4095) / 4096) * 4096 := by
  have a1 := c_iadd b 4096
  have a2 := c_isub (b + 4096) 1
  have r2 := rng32 (b + 4096 - 1)
  have r1 := rng32 (b + 4096)
  have k1 : (4096 : Int32).toInt = 4096 := by decide
  have k2 : (1 : Int32).toInt = 1 := by decide
  have v2 : (b + 4096 - 1).toInt = b.toInt + 4095 := by omega
  have a3 := (c_idiv (b + 4096 - 1) 4096 4096 (by decide) (by decide)).1 (by omega)
  have a4 := c_imul ((b + 4096 - 1) / 4096) 4096
  have r4 := rng32 ((b + 4096 - 1) / 4096 * 4096)
  unfold own_sized
  rw [if_neg hc]
  rw [k1] at a4
  omega
theorem d_prog_16_method_2_code_0 : decode prog_16_method_2_code 0 = .ok (.iload_n 0, 1) := by decide +kernel
theorem d_prog_16_method_2_code_1 : decode prog_16_method_2_code 1 = .ok (.istore_n 1, 1) := by decide +kernel
theorem d_prog_16_method_2_code_2 : decode prog_16_method_2_code 2 = .ok (.iload_n 0, 1) := by decide +kernel
theorem d_prog_16_method_2_code_3 : decode prog_16_method_2_code 3 = .ok (.sipush 16384, 3) := by decide +kernel
theorem d_prog_16_method_2_code_6 : decode prog_16_method_2_code 6 = .ok (.if_icmp .lt 19, 3) := by decide +kernel
theorem d_prog_16_method_2_code_25 : decode prog_16_method_2_code 25 = .ok (.iload_n 1, 1) := by decide +kernel
theorem d_prog_16_method_2_code_26 : decode prog_16_method_2_code 26 = .ok (.ireturn, 1) := by decide +kernel
theorem d_prog_16_method_2_code_9 : decode prog_16_method_2_code 9 = .ok (.iload_n 0, 1) := by decide +kernel
theorem d_prog_16_method_2_code_10 : decode prog_16_method_2_code 10 = .ok (.sipush 4096, 3) := by decide +kernel
theorem d_prog_16_method_2_code_13 : decode prog_16_method_2_code 13 = .ok (.iadd, 1) := by decide +kernel
theorem d_prog_16_method_2_code_14 : decode prog_16_method_2_code 14 = .ok (.iconst 1, 1) := by decide +kernel
theorem d_prog_16_method_2_code_15 : decode prog_16_method_2_code 15 = .ok (.isub, 1) := by decide +kernel
theorem d_prog_16_method_2_code_16 : decode prog_16_method_2_code 16 = .ok (.sipush 4096, 3) := by decide +kernel
theorem d_prog_16_method_2_code_19 : decode prog_16_method_2_code 19 = .ok (.idiv, 1) := by decide +kernel
theorem d_prog_16_method_2_code_20 : decode prog_16_method_2_code 20 = .ok (.sipush 4096, 3) := by decide +kernel
theorem d_prog_16_method_2_code_23 : decode prog_16_method_2_code 23 = .ok (.imul, 1) := by decide +kernel
theorem d_prog_16_method_2_code_24 : decode prog_16_method_2_code 24 = .ok (.istore_n 1, 1) := by decide +kernel
def Q_rmS (Z : State) (p1 : Int32) (h0 : Heap) (n0 : Nat) (v : Option Value) (h : Heap) (L : List Loc) : Prop := v = some (.int (own_sized p1)) ∧ Fr n0 L ∧ h = h0
theorem pn_0 : plainName "com/example/tokri/tokri/store/FreePieces" = true := by first | (simp [plainName, overriddenIn]; done) | decide +kernel
theorem ef_0 (m : MethodId) (x0 : Int32) : entryFrame m #[(.int x0)] 2 = mkF m 0 #[.val (.int x0), .unset] [] := by first | (simp [entryFrame, mkF, argsToLocals, Value.category]; done) | rfl
set_option maxRecDepth 65536 in
set_option maxHeartbeats 40000000 in
theorem rmS_t (l : Launch) (Z : State) (a0 : Array Value) (hw : ∀ d ∈ tables_1, d.before a0 Z = true) (ws : List Jvm.Cond) (p1 : Int32) (h0 : Heap) (n0 : Nat) (Z0 : n0 ≤ h0.size) (hc6 : p1 < (16384 : Int32)) (hres : (own_sized p1) = p1) :
    MetFree l (⟨"com/example/tokri/tokri/store/FreePieces", "sized", "(I)I"⟩ : MethodName) (head1 (Jvm.Cond.code (⟨"com/example/tokri/tokri/store/FreePieces", "sized", "(I)I"⟩ : MethodName) prog_16_method_2_code 2 (some .int) :: ws) ({ frames := 0, cells := 0, slots := 0, locals := 0 } : Room)) (fun a U => a = #[(.int p1)] ∧ Z.Warmed39 U.vm ∧ U.heap = h0) (fun _ _ _ _ _ => True) (fun _ U o U' => ∃ v L, o = .returned v ∧ Q_rmS Z p1 h0 n0 v U'.heap L ∧ FrameEnd U o U' L ({ frames := 0, cells := 0, slots := 0, locals := 0 } : Room).cells ({ frames := 0, cells := 0, slots := 0, locals := 0 } : Room).slots) := by
  refine MetFree.of_bodySF (plainFor_of_name pn_0) hisR ?_
  intro p e s m args below meth c s₁ Bd hml0 hP hK
  obtain ⟨rfl, hZ, hh⟩ := hP
  have hx := Bd.exec
  have hby := Bd.bytes
  have hml : c.maxLocals = 2 := hml0
  have hown : s.vm.findClass "com/example/tokri/tokri/store/FreePieces" = some m.cls := findClass_of_methodNamed Bd.named
  have hnm := (name_of_methodNamed Bd.named Bd.method).1
  have X0 : Stand p l e ({ frames := 0, cells := 0, slots := 0, locals := 0 } : Room) s m #[(.int p1)] below meth c s₁ [] 0 0 := Stand.of_body Bd
  have e0 : s₁.heap = h0 := by rw [← hh, Bd.state]; rfl
  have N0 := Fr.nil n0
  have pre0 : ∀ t, Steps p.tables e below (s₁.setTop (mkF m 0 #[.val (.int p1), .unset] [])) t → Steps p.tables e below (s₁.setTop (entryFrame m #[(.int p1)] 2)) t := fun t k => castTop (ef_0 m p1) k
  obtain ⟨fs, hr, hrun, hended, hW, hsame⟩ := X0.leave (v := some (.int p1)) (fun h => by rw [Bd.returns] at h; cases h)
  refine ⟨_, _, pre0 _ ?_, hrun, hended, _, _, rfl, ?_, ⟨_, rfl⟩, hW, hsame.mono (by decide) (by decide)⟩
  · show Steps p.tables e below (s₁.setTop (mkF m 0 #[.val (.int p1), .unset] [])) _
    refine XS.iloadN X0.here hx rfl (hb hby d_prog_16_method_2_code_0) rfl ?_
    show Steps p.tables e below (s₁.setTop (mkF m 1 #[.val (.int p1), .unset] [(.int p1)])) _
    refine XS.istoreN X0.here hx rfl (hb hby d_prog_16_method_2_code_1) rfl (l' := #[.val (.int p1), .val (.int p1)]) rfl ?_
    show Steps p.tables e below (s₁.setTop (mkF m 2 #[.val (.int p1), .val (.int p1)] [])) _
    refine XS.iloadN X0.here hx rfl (hb hby d_prog_16_method_2_code_2) rfl ?_
    show Steps p.tables e below (s₁.setTop (mkF m 3 #[.val (.int p1), .val (.int p1)] [(.int p1)])) _
    refine XS.sipush X0.here hx rfl (hb hby d_prog_16_method_2_code_3) ?_
    show Steps p.tables e below (s₁.setTop (mkF m 6 #[.val (.int p1), .val (.int p1)] [(.int (16384 : Int32)), (.int p1)])) _
    refine XS.icmpYes X0.here hx rfl (pc0 := 6) (pc' := 25) rfl (hb hby d_prog_16_method_2_code_6) rfl (tlt hc6).1 (by decide) (by decide) ?_
    show Steps p.tables e below (s₁.setTop (mkF m 25 #[.val (.int p1), .val (.int p1)] [])) _
    refine XS.iloadN X0.here hx rfl (hb hby d_prog_16_method_2_code_25) rfl ?_
    show Steps p.tables e below (s₁.setTop (mkF m 26 #[.val (.int p1), .val (.int p1)] [(.int p1)])) _
    exact retI X0 hx Bd.returns (hb hby d_prog_16_method_2_code_26) hr
  · show Q_rmS Z p1 h0 n0 _ s₁.heap _
    rw [e0]
    exact ⟨by rw [hres], N0, rfl⟩
set_option maxRecDepth 65536 in
set_option maxHeartbeats 40000000 in
theorem rmS_f (l : Launch) (Z : State) (a0 : Array Value) (hw : ∀ d ∈ tables_1, d.before a0 Z = true) (ws : List Jvm.Cond) (p1 : Int32) (h0 : Heap) (n0 : Nat) (Z0 : n0 ≤ h0.size) (hc6 : ¬ (p1 < (16384 : Int32))) (hres : (own_sized p1) = ((((p1 + (4096 : Int32)) - (1 : Int32)) / (4096 : Int32)) * (4096 : Int32))) :
    MetFree l (⟨"com/example/tokri/tokri/store/FreePieces", "sized", "(I)I"⟩ : MethodName) (head1 (Jvm.Cond.code (⟨"com/example/tokri/tokri/store/FreePieces", "sized", "(I)I"⟩ : MethodName) prog_16_method_2_code 2 (some .int) :: ws) ({ frames := 0, cells := 0, slots := 0, locals := 0 } : Room)) (fun a U => a = #[(.int p1)] ∧ Z.Warmed39 U.vm ∧ U.heap = h0) (fun _ _ _ _ _ => True) (fun _ U o U' => ∃ v L, o = .returned v ∧ Q_rmS Z p1 h0 n0 v U'.heap L ∧ FrameEnd U o U' L ({ frames := 0, cells := 0, slots := 0, locals := 0 } : Room).cells ({ frames := 0, cells := 0, slots := 0, locals := 0 } : Room).slots) := by
  refine MetFree.of_bodySF (plainFor_of_name pn_0) hisR ?_
  intro p e s m args below meth c s₁ Bd hml0 hP hK
  obtain ⟨rfl, hZ, hh⟩ := hP
  have hx := Bd.exec
  have hby := Bd.bytes
  have hml : c.maxLocals = 2 := hml0
  have hown : s.vm.findClass "com/example/tokri/tokri/store/FreePieces" = some m.cls := findClass_of_methodNamed Bd.named
  have hnm := (name_of_methodNamed Bd.named Bd.method).1
  have X0 : Stand p l e ({ frames := 0, cells := 0, slots := 0, locals := 0 } : Room) s m #[(.int p1)] below meth c s₁ [] 0 0 := Stand.of_body Bd
  have e0 : s₁.heap = h0 := by rw [← hh, Bd.state]; rfl
  have N0 := Fr.nil n0
  have pre0 : ∀ t, Steps p.tables e below (s₁.setTop (mkF m 0 #[.val (.int p1), .unset] [])) t → Steps p.tables e below (s₁.setTop (entryFrame m #[(.int p1)] 2)) t := fun t k => castTop (ef_0 m p1) k
  obtain ⟨fs, hr, hrun, hended, hW, hsame⟩ := X0.leave (v := some (.int ((((p1 + (4096 : Int32)) - (1 : Int32)) / (4096 : Int32)) * (4096 : Int32)))) (fun h => by rw [Bd.returns] at h; cases h)
  refine ⟨_, _, pre0 _ ?_, hrun, hended, _, _, rfl, ?_, ⟨_, rfl⟩, hW, hsame.mono (by decide) (by decide)⟩
  · show Steps p.tables e below (s₁.setTop (mkF m 0 #[.val (.int p1), .unset] [])) _
    refine XS.iloadN X0.here hx rfl (hb hby d_prog_16_method_2_code_0) rfl ?_
    show Steps p.tables e below (s₁.setTop (mkF m 1 #[.val (.int p1), .unset] [(.int p1)])) _
    refine XS.istoreN X0.here hx rfl (hb hby d_prog_16_method_2_code_1) rfl (l' := #[.val (.int p1), .val (.int p1)]) rfl ?_
    show Steps p.tables e below (s₁.setTop (mkF m 2 #[.val (.int p1), .val (.int p1)] [])) _
    refine XS.iloadN X0.here hx rfl (hb hby d_prog_16_method_2_code_2) rfl ?_
    show Steps p.tables e below (s₁.setTop (mkF m 3 #[.val (.int p1), .val (.int p1)] [(.int p1)])) _
    refine XS.sipush X0.here hx rfl (hb hby d_prog_16_method_2_code_3) ?_
    show Steps p.tables e below (s₁.setTop (mkF m 6 #[.val (.int p1), .val (.int p1)] [(.int (16384 : Int32)), (.int p1)])) _
    refine XS.icmpNo X0.here hx rfl (hb hby d_prog_16_method_2_code_6) rfl (flt hc6).1 ?_
    show Steps p.tables e below (s₁.setTop (mkF m 9 #[.val (.int p1), .val (.int p1)] [])) _
    refine XS.iloadN X0.here hx rfl (hb hby d_prog_16_method_2_code_9) rfl ?_
    show Steps p.tables e below (s₁.setTop (mkF m 10 #[.val (.int p1), .val (.int p1)] [(.int p1)])) _
    refine XS.sipush X0.here hx rfl (hb hby d_prog_16_method_2_code_10) ?_
    show Steps p.tables e below (s₁.setTop (mkF m 13 #[.val (.int p1), .val (.int p1)] [(.int (4096 : Int32)), (.int p1)])) _
    refine XS.iadd X0.here hx rfl (hb hby d_prog_16_method_2_code_13) rfl ?_
    show Steps p.tables e below (s₁.setTop (mkF m 14 #[.val (.int p1), .val (.int p1)] [(.int (p1 + (4096 : Int32)))])) _
    refine XS.iconst X0.here hx rfl (hb hby d_prog_16_method_2_code_14) ?_
    show Steps p.tables e below (s₁.setTop (mkF m 15 #[.val (.int p1), .val (.int p1)] [(.int (1 : Int32)), (.int (p1 + (4096 : Int32)))])) _
    refine XS.isub X0.here hx rfl (hb hby d_prog_16_method_2_code_15) rfl ?_
    show Steps p.tables e below (s₁.setTop (mkF m 16 #[.val (.int p1), .val (.int p1)] [(.int ((p1 + (4096 : Int32)) - (1 : Int32)))])) _
    refine XS.sipush X0.here hx rfl (hb hby d_prog_16_method_2_code_16) ?_
    show Steps p.tables e below (s₁.setTop (mkF m 19 #[.val (.int p1), .val (.int p1)] [(.int (4096 : Int32)), (.int ((p1 + (4096 : Int32)) - (1 : Int32)))])) _
    refine XS.idiv X0.here hx rfl (hb hby d_prog_16_method_2_code_19) rfl (by decide) ?_
    show Steps p.tables e below (s₁.setTop (mkF m 20 #[.val (.int p1), .val (.int p1)] [(.int (((p1 + (4096 : Int32)) - (1 : Int32)) / (4096 : Int32)))])) _
    refine XS.sipush X0.here hx rfl (hb hby d_prog_16_method_2_code_20) ?_
    show Steps p.tables e below (s₁.setTop (mkF m 23 #[.val (.int p1), .val (.int p1)] [(.int (4096 : Int32)), (.int (((p1 + (4096 : Int32)) - (1 : Int32)) / (4096 : Int32)))])) _
    refine XS.imul X0.here hx rfl (hb hby d_prog_16_method_2_code_23) rfl ?_
    show Steps p.tables e below (s₁.setTop (mkF m 24 #[.val (.int p1), .val (.int p1)] [(.int ((((p1 + (4096 : Int32)) - (1 : Int32)) / (4096 : Int32)) * (4096 : Int32)))])) _
    refine XS.istoreN X0.here hx rfl (hb hby d_prog_16_method_2_code_24) rfl (l' := #[.val (.int p1), .val (.int ((((p1 + (4096 : Int32)) - (1 : Int32)) / (4096 : Int32)) * (4096 : Int32)))]) rfl ?_
    show Steps p.tables e below (s₁.setTop (mkF m 25 #[.val (.int p1), .val (.int ((((p1 + (4096 : Int32)) - (1 : Int32)) / (4096 : Int32)) * (4096 : Int32)))] [])) _
    refine XS.iloadN X0.here hx rfl (hb hby d_prog_16_method_2_code_25) rfl ?_
    show Steps p.tables e below (s₁.setTop (mkF m 26 #[.val (.int p1), .val (.int ((((p1 + (4096 : Int32)) - (1 : Int32)) / (4096 : Int32)) * (4096 : Int32)))] [(.int ((((p1 + (4096 : Int32)) - (1 : Int32)) / (4096 : Int32)) * (4096 : Int32)))])) _
    exact retI X0 hx Bd.returns (hb hby d_prog_16_method_2_code_26) hr
  · show Q_rmS Z p1 h0 n0 _ s₁.heap _
    rw [e0]
    exact ⟨by rw [hres], N0, rfl⟩
theorem rmS (l : Launch) (Z : State) (a0 : Array Value) (hw : ∀ d ∈ tables_1, d.before a0 Z = true) (ws : List Jvm.Cond) (p1 : Int32) (h0 : Heap) (n0 : Nat) (Z0 : n0 ≤ h0.size) :
    MetFree l (⟨"com/example/tokri/tokri/store/FreePieces", "sized", "(I)I"⟩ : MethodName) (head1 (Jvm.Cond.code (⟨"com/example/tokri/tokri/store/FreePieces", "sized", "(I)I"⟩ : MethodName) prog_16_method_2_code 2 (some .int) :: ws) ({ frames := 0, cells := 0, slots := 0, locals := 0 } : Room)) (fun a U => a = #[(.int p1)] ∧ Z.Warmed39 U.vm ∧ U.heap = h0) (fun _ _ _ _ _ => True) (fun _ U o U' => ∃ v L, o = .returned v ∧ Q_rmS Z p1 h0 n0 v U'.heap L ∧ FrameEnd U o U' L ({ frames := 0, cells := 0, slots := 0, locals := 0 } : Room).cells ({ frames := 0, cells := 0, slots := 0, locals := 0 } : Room).slots) := by
  by_cases hc6 : p1 < (16384 : Int32)
  · skip
    exact rmS_t l Z a0 hw ws p1 h0 n0 Z0 hc6 (by unfold own_sized; rw [if_pos hc6])
  · skip
    exact rmS_f l Z a0 hw ws p1 h0 n0 Z0 hc6 (by unfold own_sized; rw [if_neg hc6])
theorem pd_0 : parseMethodDescriptor "(I)I" = some ⟨[.int], some .int⟩ := by decide +kernel
def Q_rm0 (Z : State) (p1 : Int32) (h0 : Heap) (n0 : Nat) (v : Option Value) (h : Heap) (L : List Loc) : Prop := v = some (.int (1 : Int32)) ∧ Fr n0 L ∧ h = h0
theorem pn_1 : plainName "com/example/tokri/tokri/store/FreePiecesSizedPinLaw" = true := by first | (simp [plainName, overriddenIn]; done) | decide +kernel
theorem ef_1 (m : MethodId) (x0 : Int32) : entryFrame m #[(.int x0)] maxLocals = mkF m 0 #[.val (.int x0), .unset, .unset, .unset, .unset, .unset, .unset] [] := by first | (simp [entryFrame, mkF, argsToLocals, Value.category, maxLocals]; done) | rfl
set_option maxRecDepth 65536 in
set_option maxHeartbeats 40000000 in
theorem rm0_tt (l : Launch) (Z : State) (a0 : Array Value) (hw : ∀ d ∈ tables_1, d.before a0 Z = true) (ws : List Jvm.Cond) (p1 : Int32) (h0 : Heap) (n0 : Nat) (Z0 : n0 ≤ h0.size) (hc19 : (own_b p1) < (16384 : Int32)) (hc63 : ((own_sized (own_b p1)).toInt64) = ((own_b p1).toInt64)) :
    MetFree l x (head1 (Jvm.Cond.code x code maxLocals ret :: ws) room_1) (fun a U => a = #[(.int p1)] ∧ Z.Warmed39 U.vm ∧ U.heap = h0) (fun _ _ _ _ _ => True) (fun _ U o U' => ∃ v L, o = .returned v ∧ Q_rm0 Z p1 h0 n0 v U'.heap L ∧ FrameEnd U o U' L room_1.cells room_1.slots) := by
  refine MetFree.of_bodySF (plainFor_of_name pn_1) hisR ?_
  intro p e s m args below meth c s₁ Bd hml0 hP hK
  obtain ⟨rfl, hZ, hh⟩ := hP
  have hx := Bd.exec
  have hby := Bd.bytes
  have hml : c.maxLocals = 7 := hml0
  have hown : s.vm.findClass "com/example/tokri/tokri/store/FreePiecesSizedPinLaw" = some m.cls := findClass_of_methodNamed Bd.named
  have hnm := (name_of_methodNamed Bd.named Bd.method).1
  have X0 : Stand p l e room_1 s m #[(.int p1)] below meth c s₁ [] 0 0 := Stand.of_body Bd
  have e0 : s₁.heap = h0 := by rw [← hh, Bd.state]; rfl
  have N0 := Fr.nil n0
  have pre0 : ∀ t, Steps p.tables e below (s₁.setTop (mkF m 0 #[.val (.int p1), .unset, .unset, .unset, .unset, .unset, .unset] [])) t → Steps p.tables e below (s₁.setTop (entryFrame m #[(.int p1)] maxLocals)) t := fun t k => castTop (ef_1 m p1) k
  obtain ⟨_, _, ⟨T1, L1, k1, n1⟩, -, X1, ⟨Lc1, hQ1, l1, y1, z1⟩, st1⟩ := Jvm.LawKit.callS X0 hx (y := (⟨"com/example/tokri/tokri/store/FreePieces", "sized", "(I)I"⟩ : MethodName)) hown (mvT hZ (hw _ (List.mem_of_getElem? (i := 2) rfl))) (mvT hZ (hw _ (List.mem_of_getElem? (i := 3) rfl))) (mvT hZ (hw _ (List.mem_of_getElem? (i := 4) rfl))) (mvT hZ (hw _ (List.mem_of_getElem? (i := 5) rfl))) (by decide) (backOf (W := 0) (rmS l Z a0 hw [] (own_b p1) h0 n0 Z0 ) hZ (hw _ (List.mem_of_getElem? (i := 5) rfl)) (hw _ (List.mem_of_getElem? (i := 4) rfl)) (by decide) (by decide)) (g := (mkF m 11 #[.val (.int p1), .val (.int (own_b p1)), .unset, .unset, .unset, .unset, .unset] [(.int (own_b p1))])) rfl (by rw [hml]; rfl) (argsL := [(.int (own_b p1))]) (rest := []) (lenOf pd_0 rfl) rfl (by show 2 * 0 + _ ≤ _; exact Nat.le_of_eq rfl) (hb hby at_11) (fun _ _ => ⟨rfl, e0, (by decide : 0 + 0 ≤ _), (by decide : 0 + 0 ≤ _)⟩)
  dsimp only [Pt.U, Pt.locs, Pt.cells, Pt.slots] at X1 l1 y1 z1 st1 hQ1
  subst l1 y1 z1
  obtain ⟨rfl, N1q, e1⟩ := hQ1
  have N1 := Fr.app N0 N1q
  obtain ⟨fs, hr, hrun, hended, hW, hsame⟩ := X1.leave (v := some (.int (1 : Int32))) (fun h => by rw [Bd.returns] at h; cases h)
  refine ⟨_, _, pre0 _ ?_, hrun, hended, _, _, rfl, ?_, ⟨_, rfl⟩, hW, hsame.mono (by decide) (by decide)⟩
  · show Steps p.tables e below (s₁.setTop (mkF m 0 #[.val (.int p1), .unset, .unset, .unset, .unset, .unset, .unset] [])) _
    refine XS.iconst X0.here hx rfl (hb hby at_0) ?_
    show Steps p.tables e below (s₁.setTop (mkF m 1 #[.val (.int p1), .unset, .unset, .unset, .unset, .unset, .unset] [(.int (1 : Int32))])) _
    refine XS.iloadN X0.here hx rfl (hb hby at_1) rfl ?_
    show Steps p.tables e below (s₁.setTop (mkF m 2 #[.val (.int p1), .unset, .unset, .unset, .unset, .unset, .unset] [(.int p1), (.int (1 : Int32))])) _
    refine X0.ldcI hx hown (mvT hZ (hw _ (List.mem_of_getElem? (i := 0) rfl))) (g := (mkF m 2 #[.val (.int p1), .unset, .unset, .unset, .unset, .unset, .unset] [(.int p1), (.int (1 : Int32))])) rfl (hb hby at_2) ?_
    show Steps p.tables e below (s₁.setTop (mkF m 4 #[.val (.int p1), .unset, .unset, .unset, .unset, .unset, .unset] [(.int (2147483647 : Int32)), (.int p1), (.int (1 : Int32))])) _
    refine XS.iand X0.here hx rfl (hb hby at_4) rfl ?_
    show Steps p.tables e below (s₁.setTop (mkF m 5 #[.val (.int p1), .unset, .unset, .unset, .unset, .unset, .unset] [(.int (p1 &&& (2147483647 : Int32))), (.int (1 : Int32))])) _
    refine X0.ldcI hx hown (mvT hZ (hw _ (List.mem_of_getElem? (i := 1) rfl))) (g := (mkF m 5 #[.val (.int p1), .unset, .unset, .unset, .unset, .unset, .unset] [(.int (p1 &&& (2147483647 : Int32))), (.int (1 : Int32))])) rfl (hb hby at_5) ?_
    show Steps p.tables e below (s₁.setTop (mkF m 7 #[.val (.int p1), .unset, .unset, .unset, .unset, .unset, .unset] [(.int (2147479552 : Int32)), (.int (p1 &&& (2147483647 : Int32))), (.int (1 : Int32))])) _
    refine iremM X0 hx rfl (hb hby at_7) rfl (by decide) ?_
    show Steps p.tables e below (s₁.setTop (mkF m 8 #[.val (.int p1), .unset, .unset, .unset, .unset, .unset, .unset] [(.int ((p1 &&& (2147483647 : Int32)) % (2147479552 : Int32))), (.int (1 : Int32))])) _
    refine XS.iadd X0.here hx rfl (hb hby at_8) rfl ?_
    show Steps p.tables e below (s₁.setTop (mkF m 9 #[.val (.int p1), .unset, .unset, .unset, .unset, .unset, .unset] [(.int (own_b p1))])) _
    refine XS.istoreN X0.here hx rfl (hb hby at_9) rfl (l' := #[.val (.int p1), .val (.int (own_b p1)), .unset, .unset, .unset, .unset, .unset]) rfl ?_
    show Steps p.tables e below (s₁.setTop (mkF m 10 #[.val (.int p1), .val (.int (own_b p1)), .unset, .unset, .unset, .unset, .unset] [])) _
    refine XS.iloadN X0.here hx rfl (hb hby at_10) rfl ?_
    show Steps p.tables e below (s₁.setTop (mkF m 11 #[.val (.int p1), .val (.int (own_b p1)), .unset, .unset, .unset, .unset, .unset] [(.int (own_b p1))])) _
    refine st1 _ ?_
    show Steps p.tables e below (T1.setTop (mkF m 14 #[.val (.int p1), .val (.int (own_b p1)), .unset, .unset, .unset, .unset, .unset] [(.int (own_sized (own_b p1)))])) _
    refine XS.istoreN X1.here hx rfl (hb hby at_14) rfl (l' := #[.val (.int p1), .val (.int (own_b p1)), .val (.int (own_sized (own_b p1))), .unset, .unset, .unset, .unset]) rfl ?_
    show Steps p.tables e below (T1.setTop (mkF m 15 #[.val (.int p1), .val (.int (own_b p1)), .val (.int (own_sized (own_b p1))), .unset, .unset, .unset, .unset] [])) _
    refine XS.iloadN X1.here hx rfl (hb hby at_15) rfl ?_
    show Steps p.tables e below (T1.setTop (mkF m 16 #[.val (.int p1), .val (.int (own_b p1)), .val (.int (own_sized (own_b p1))), .unset, .unset, .unset, .unset] [(.int (own_b p1))])) _
    refine XS.sipush X1.here hx rfl (hb hby at_16) ?_
    show Steps p.tables e below (T1.setTop (mkF m 19 #[.val (.int p1), .val (.int (own_b p1)), .val (.int (own_sized (own_b p1))), .unset, .unset, .unset, .unset] [(.int (16384 : Int32)), (.int (own_b p1))])) _
    refine XS.icmpNo X1.here hx rfl (hb hby at_19) rfl (tlt hc19).2.1 ?_
    show Steps p.tables e below (T1.setTop (mkF m 22 #[.val (.int p1), .val (.int (own_b p1)), .val (.int (own_sized (own_b p1))), .unset, .unset, .unset, .unset] [])) _
    refine XS.iloadN X1.here hx rfl (hb hby at_22) rfl ?_
    show Steps p.tables e below (T1.setTop (mkF m 23 #[.val (.int p1), .val (.int (own_b p1)), .val (.int (own_sized (own_b p1))), .unset, .unset, .unset, .unset] [(.int (own_b p1))])) _
    refine XS.i2l X1.here hx rfl (hb hby at_23) rfl ?_
    show Steps p.tables e below (T1.setTop (mkF m 24 #[.val (.int p1), .val (.int (own_b p1)), .val (.int (own_sized (own_b p1))), .unset, .unset, .unset, .unset] [(.long ((own_b p1).toInt64))])) _
    refine XS.lstoreN X1.here hx rfl (hb hby at_24) rfl (l' := #[.val (.int p1), .val (.int (own_b p1)), .val (.int (own_sized (own_b p1))), .val (.long ((own_b p1).toInt64)), .second, .unset, .unset]) rfl ?_
    show Steps p.tables e below (T1.setTop (mkF m 25 #[.val (.int p1), .val (.int (own_b p1)), .val (.int (own_sized (own_b p1))), .val (.long ((own_b p1).toInt64)), .second, .unset, .unset] [])) _
    refine XS.goto X1.here hx rfl (pc0 := 25) (pc' := 59) rfl (hb hby at_25) (by decide) (by decide) ?_
    show Steps p.tables e below (T1.setTop (mkF m 59 #[.val (.int p1), .val (.int (own_b p1)), .val (.int (own_sized (own_b p1))), .val (.long ((own_b p1).toInt64)), .second, .unset, .unset] [])) _
    refine XS.iloadN X1.here hx rfl (hb hby at_59) rfl ?_
    show Steps p.tables e below (T1.setTop (mkF m 60 #[.val (.int p1), .val (.int (own_b p1)), .val (.int (own_sized (own_b p1))), .val (.long ((own_b p1).toInt64)), .second, .unset, .unset] [(.int (own_sized (own_b p1)))])) _
    refine XS.i2l X1.here hx rfl (hb hby at_60) rfl ?_
    show Steps p.tables e below (T1.setTop (mkF m 61 #[.val (.int p1), .val (.int (own_b p1)), .val (.int (own_sized (own_b p1))), .val (.long ((own_b p1).toInt64)), .second, .unset, .unset] [(.long ((own_sized (own_b p1)).toInt64))])) _
    refine XS.lloadN X1.here hx rfl (hb hby at_61) rfl ?_
    show Steps p.tables e below (T1.setTop (mkF m 62 #[.val (.int p1), .val (.int (own_b p1)), .val (.int (own_sized (own_b p1))), .val (.long ((own_b p1).toInt64)), .second, .unset, .unset] [(.long ((own_b p1).toInt64)), (.long ((own_sized (own_b p1)).toInt64))])) _
    refine XS.lcmp X1.here hx rfl (hb hby at_62) rfl ?_
    show Steps p.tables e below (T1.setTop (mkF m 63 #[.val (.int p1), .val (.int (own_b p1)), .val (.int (own_sized (own_b p1))), .val (.long ((own_b p1).toInt64)), .second, .unset, .unset] [(.int (lcmpW ((own_sized (own_b p1)).toInt64) ((own_b p1).toInt64)))])) _
    refine XS.ifNo X1.here hx rfl (hb hby at_63) rfl ((if0 _ _).trans (teq ((lw_eq ((own_sized (own_b p1)).toInt64) ((own_b p1).toInt64)).mpr hc63)).2) ?_
    show Steps p.tables e below (T1.setTop (mkF m 66 #[.val (.int p1), .val (.int (own_b p1)), .val (.int (own_sized (own_b p1))), .val (.long ((own_b p1).toInt64)), .second, .unset, .unset] [])) _
    refine XS.iconst X1.here hx rfl (hb hby at_66) ?_
    show Steps p.tables e below (T1.setTop (mkF m 67 #[.val (.int p1), .val (.int (own_b p1)), .val (.int (own_sized (own_b p1))), .val (.long ((own_b p1).toInt64)), .second, .unset, .unset] [(.int (1 : Int32))])) _
    refine XS.goto X1.here hx rfl (pc0 := 67) (pc' := 71) rfl (hb hby at_67) (by decide) (by decide) ?_
    show Steps p.tables e below (T1.setTop (mkF m 71 #[.val (.int p1), .val (.int (own_b p1)), .val (.int (own_sized (own_b p1))), .val (.long ((own_b p1).toInt64)), .second, .unset, .unset] [(.int (1 : Int32))])) _
    exact retN X1 hx (t := .boolean) Bd.returns (by simp) (hb hby at_71) hr
  · show Q_rm0 Z p1 h0 n0 _ T1.heap _
    rw [e1]
    exact ⟨rfl, N1, rfl⟩
set_option maxRecDepth 65536 in
set_option maxHeartbeats 40000000 in
theorem rm0_ftt (l : Launch) (Z : State) (a0 : Array Value) (hw : ∀ d ∈ tables_1, d.before a0 Z = true) (ws : List Jvm.Cond) (p1 : Int32) (h0 : Heap) (n0 : Nat) (Z0 : n0 ≤ h0.size) (hc19 : ¬ ((own_b p1) < (16384 : Int32))) (hc40 : (own_r p1) = (0 : Int64)) (hc63 : ((own_sized (own_b p1)).toInt64) = ((own_b p1).toInt64)) :
    MetFree l x (head1 (Jvm.Cond.code x code maxLocals ret :: ws) room_1) (fun a U => a = #[(.int p1)] ∧ Z.Warmed39 U.vm ∧ U.heap = h0) (fun _ _ _ _ _ => True) (fun _ U o U' => ∃ v L, o = .returned v ∧ Q_rm0 Z p1 h0 n0 v U'.heap L ∧ FrameEnd U o U' L room_1.cells room_1.slots) := by
  refine MetFree.of_bodySF (plainFor_of_name pn_1) hisR ?_
  intro p e s m args below meth c s₁ Bd hml0 hP hK
  obtain ⟨rfl, hZ, hh⟩ := hP
  have hx := Bd.exec
  have hby := Bd.bytes
  have hml : c.maxLocals = 7 := hml0
  have hown : s.vm.findClass "com/example/tokri/tokri/store/FreePiecesSizedPinLaw" = some m.cls := findClass_of_methodNamed Bd.named
  have hnm := (name_of_methodNamed Bd.named Bd.method).1
  have X0 : Stand p l e room_1 s m #[(.int p1)] below meth c s₁ [] 0 0 := Stand.of_body Bd
  have e0 : s₁.heap = h0 := by rw [← hh, Bd.state]; rfl
  have N0 := Fr.nil n0
  have pre0 : ∀ t, Steps p.tables e below (s₁.setTop (mkF m 0 #[.val (.int p1), .unset, .unset, .unset, .unset, .unset, .unset] [])) t → Steps p.tables e below (s₁.setTop (entryFrame m #[(.int p1)] maxLocals)) t := fun t k => castTop (ef_1 m p1) k
  obtain ⟨_, _, ⟨T1, L1, k1, n1⟩, -, X1, ⟨Lc1, hQ1, l1, y1, z1⟩, st1⟩ := Jvm.LawKit.callS X0 hx (y := (⟨"com/example/tokri/tokri/store/FreePieces", "sized", "(I)I"⟩ : MethodName)) hown (mvT hZ (hw _ (List.mem_of_getElem? (i := 2) rfl))) (mvT hZ (hw _ (List.mem_of_getElem? (i := 3) rfl))) (mvT hZ (hw _ (List.mem_of_getElem? (i := 4) rfl))) (mvT hZ (hw _ (List.mem_of_getElem? (i := 5) rfl))) (by decide) (backOf (W := 0) (rmS l Z a0 hw [] (own_b p1) h0 n0 Z0 ) hZ (hw _ (List.mem_of_getElem? (i := 5) rfl)) (hw _ (List.mem_of_getElem? (i := 4) rfl)) (by decide) (by decide)) (g := (mkF m 11 #[.val (.int p1), .val (.int (own_b p1)), .unset, .unset, .unset, .unset, .unset] [(.int (own_b p1))])) rfl (by rw [hml]; rfl) (argsL := [(.int (own_b p1))]) (rest := []) (lenOf pd_0 rfl) rfl (by show 2 * 0 + _ ≤ _; exact Nat.le_of_eq rfl) (hb hby at_11) (fun _ _ => ⟨rfl, e0, (by decide : 0 + 0 ≤ _), (by decide : 0 + 0 ≤ _)⟩)
  dsimp only [Pt.U, Pt.locs, Pt.cells, Pt.slots] at X1 l1 y1 z1 st1 hQ1
  subst l1 y1 z1
  obtain ⟨rfl, N1q, e1⟩ := hQ1
  have N1 := Fr.app N0 N1q
  obtain ⟨fs, hr, hrun, hended, hW, hsame⟩ := X1.leave (v := some (.int (1 : Int32))) (fun h => by rw [Bd.returns] at h; cases h)
  refine ⟨_, _, pre0 _ ?_, hrun, hended, _, _, rfl, ?_, ⟨_, rfl⟩, hW, hsame.mono (by decide) (by decide)⟩
  · show Steps p.tables e below (s₁.setTop (mkF m 0 #[.val (.int p1), .unset, .unset, .unset, .unset, .unset, .unset] [])) _
    refine XS.iconst X0.here hx rfl (hb hby at_0) ?_
    show Steps p.tables e below (s₁.setTop (mkF m 1 #[.val (.int p1), .unset, .unset, .unset, .unset, .unset, .unset] [(.int (1 : Int32))])) _
    refine XS.iloadN X0.here hx rfl (hb hby at_1) rfl ?_
    show Steps p.tables e below (s₁.setTop (mkF m 2 #[.val (.int p1), .unset, .unset, .unset, .unset, .unset, .unset] [(.int p1), (.int (1 : Int32))])) _
    refine X0.ldcI hx hown (mvT hZ (hw _ (List.mem_of_getElem? (i := 0) rfl))) (g := (mkF m 2 #[.val (.int p1), .unset, .unset, .unset, .unset, .unset, .unset] [(.int p1), (.int (1 : Int32))])) rfl (hb hby at_2) ?_
    show Steps p.tables e below (s₁.setTop (mkF m 4 #[.val (.int p1), .unset, .unset, .unset, .unset, .unset, .unset] [(.int (2147483647 : Int32)), (.int p1), (.int (1 : Int32))])) _
    refine XS.iand X0.here hx rfl (hb hby at_4) rfl ?_
    show Steps p.tables e below (s₁.setTop (mkF m 5 #[.val (.int p1), .unset, .unset, .unset, .unset, .unset, .unset] [(.int (p1 &&& (2147483647 : Int32))), (.int (1 : Int32))])) _
    refine X0.ldcI hx hown (mvT hZ (hw _ (List.mem_of_getElem? (i := 1) rfl))) (g := (mkF m 5 #[.val (.int p1), .unset, .unset, .unset, .unset, .unset, .unset] [(.int (p1 &&& (2147483647 : Int32))), (.int (1 : Int32))])) rfl (hb hby at_5) ?_
    show Steps p.tables e below (s₁.setTop (mkF m 7 #[.val (.int p1), .unset, .unset, .unset, .unset, .unset, .unset] [(.int (2147479552 : Int32)), (.int (p1 &&& (2147483647 : Int32))), (.int (1 : Int32))])) _
    refine iremM X0 hx rfl (hb hby at_7) rfl (by decide) ?_
    show Steps p.tables e below (s₁.setTop (mkF m 8 #[.val (.int p1), .unset, .unset, .unset, .unset, .unset, .unset] [(.int ((p1 &&& (2147483647 : Int32)) % (2147479552 : Int32))), (.int (1 : Int32))])) _
    refine XS.iadd X0.here hx rfl (hb hby at_8) rfl ?_
    show Steps p.tables e below (s₁.setTop (mkF m 9 #[.val (.int p1), .unset, .unset, .unset, .unset, .unset, .unset] [(.int (own_b p1))])) _
    refine XS.istoreN X0.here hx rfl (hb hby at_9) rfl (l' := #[.val (.int p1), .val (.int (own_b p1)), .unset, .unset, .unset, .unset, .unset]) rfl ?_
    show Steps p.tables e below (s₁.setTop (mkF m 10 #[.val (.int p1), .val (.int (own_b p1)), .unset, .unset, .unset, .unset, .unset] [])) _
    refine XS.iloadN X0.here hx rfl (hb hby at_10) rfl ?_
    show Steps p.tables e below (s₁.setTop (mkF m 11 #[.val (.int p1), .val (.int (own_b p1)), .unset, .unset, .unset, .unset, .unset] [(.int (own_b p1))])) _
    refine st1 _ ?_
    show Steps p.tables e below (T1.setTop (mkF m 14 #[.val (.int p1), .val (.int (own_b p1)), .unset, .unset, .unset, .unset, .unset] [(.int (own_sized (own_b p1)))])) _
    refine XS.istoreN X1.here hx rfl (hb hby at_14) rfl (l' := #[.val (.int p1), .val (.int (own_b p1)), .val (.int (own_sized (own_b p1))), .unset, .unset, .unset, .unset]) rfl ?_
    show Steps p.tables e below (T1.setTop (mkF m 15 #[.val (.int p1), .val (.int (own_b p1)), .val (.int (own_sized (own_b p1))), .unset, .unset, .unset, .unset] [])) _
    refine XS.iloadN X1.here hx rfl (hb hby at_15) rfl ?_
    show Steps p.tables e below (T1.setTop (mkF m 16 #[.val (.int p1), .val (.int (own_b p1)), .val (.int (own_sized (own_b p1))), .unset, .unset, .unset, .unset] [(.int (own_b p1))])) _
    refine XS.sipush X1.here hx rfl (hb hby at_16) ?_
    show Steps p.tables e below (T1.setTop (mkF m 19 #[.val (.int p1), .val (.int (own_b p1)), .val (.int (own_sized (own_b p1))), .unset, .unset, .unset, .unset] [(.int (16384 : Int32)), (.int (own_b p1))])) _
    refine XS.icmpYes X1.here hx rfl (pc0 := 19) (pc' := 28) rfl (hb hby at_19) rfl (flt hc19).2.1 (by decide) (by decide) ?_
    show Steps p.tables e below (T1.setTop (mkF m 28 #[.val (.int p1), .val (.int (own_b p1)), .val (.int (own_sized (own_b p1))), .unset, .unset, .unset, .unset] [])) _
    refine XS.iloadN X1.here hx rfl (hb hby at_28) rfl ?_
    show Steps p.tables e below (T1.setTop (mkF m 29 #[.val (.int p1), .val (.int (own_b p1)), .val (.int (own_sized (own_b p1))), .unset, .unset, .unset, .unset] [(.int (own_b p1))])) _
    refine XS.i2l X1.here hx rfl (hb hby at_29) rfl ?_
    show Steps p.tables e below (T1.setTop (mkF m 30 #[.val (.int p1), .val (.int (own_b p1)), .val (.int (own_sized (own_b p1))), .unset, .unset, .unset, .unset] [(.long ((own_b p1).toInt64))])) _
    refine X1.ldc2J hx hown (mvT hZ (hw _ (List.mem_of_getElem? (i := 6) rfl))) (g := (mkF m 30 #[.val (.int p1), .val (.int (own_b p1)), .val (.int (own_sized (own_b p1))), .unset, .unset, .unset, .unset] [(.long ((own_b p1).toInt64))])) rfl (hb hby at_30) ?_
    show Steps p.tables e below (T1.setTop (mkF m 33 #[.val (.int p1), .val (.int (own_b p1)), .val (.int (own_sized (own_b p1))), .unset, .unset, .unset, .unset] [(.long (4096 : Int64)), (.long ((own_b p1).toInt64))])) _
    refine XS.lrem X1.here hx rfl (hb hby at_33) rfl (by decide) ?_
    show Steps p.tables e below (T1.setTop (mkF m 34 #[.val (.int p1), .val (.int (own_b p1)), .val (.int (own_sized (own_b p1))), .unset, .unset, .unset, .unset] [(.long (own_r p1))])) _
    refine XS.lstore X1.here hx rfl (hb hby at_34) rfl (l' := #[.val (.int p1), .val (.int (own_b p1)), .val (.int (own_sized (own_b p1))), .unset, .unset, .val (.long (own_r p1)), .second]) rfl ?_
    show Steps p.tables e below (T1.setTop (mkF m 36 #[.val (.int p1), .val (.int (own_b p1)), .val (.int (own_sized (own_b p1))), .unset, .unset, .val (.long (own_r p1)), .second] [])) _
    refine XS.lload X1.here hx rfl (hb hby at_36) rfl ?_
    show Steps p.tables e below (T1.setTop (mkF m 38 #[.val (.int p1), .val (.int (own_b p1)), .val (.int (own_sized (own_b p1))), .unset, .unset, .val (.long (own_r p1)), .second] [(.long (own_r p1))])) _
    refine XS.lconst X1.here hx rfl (hb hby at_38) ?_
    show Steps p.tables e below (T1.setTop (mkF m 39 #[.val (.int p1), .val (.int (own_b p1)), .val (.int (own_sized (own_b p1))), .unset, .unset, .val (.long (own_r p1)), .second] [(.long (0 : Int64)), (.long (own_r p1))])) _
    refine XS.lcmp X1.here hx rfl (hb hby at_39) rfl ?_
    show Steps p.tables e below (T1.setTop (mkF m 40 #[.val (.int p1), .val (.int (own_b p1)), .val (.int (own_sized (own_b p1))), .unset, .unset, .val (.long (own_r p1)), .second] [(.int (lcmpW (own_r p1) (0 : Int64)))])) _
    refine XS.ifNo X1.here hx rfl (hb hby at_40) rfl ((if0 _ _).trans (teq ((lw_eq (own_r p1) (0 : Int64)).mpr hc40)).2) ?_
    show Steps p.tables e below (T1.setTop (mkF m 43 #[.val (.int p1), .val (.int (own_b p1)), .val (.int (own_sized (own_b p1))), .unset, .unset, .val (.long (own_r p1)), .second] [])) _
    refine XS.iloadN X1.here hx rfl (hb hby at_43) rfl ?_
    show Steps p.tables e below (T1.setTop (mkF m 44 #[.val (.int p1), .val (.int (own_b p1)), .val (.int (own_sized (own_b p1))), .unset, .unset, .val (.long (own_r p1)), .second] [(.int (own_b p1))])) _
    refine XS.i2l X1.here hx rfl (hb hby at_44) rfl ?_
    show Steps p.tables e below (T1.setTop (mkF m 45 #[.val (.int p1), .val (.int (own_b p1)), .val (.int (own_sized (own_b p1))), .unset, .unset, .val (.long (own_r p1)), .second] [(.long ((own_b p1).toInt64))])) _
    refine XS.lstoreN X1.here hx rfl (hb hby at_45) rfl (l' := #[.val (.int p1), .val (.int (own_b p1)), .val (.int (own_sized (own_b p1))), .val (.long ((own_b p1).toInt64)), .second, .val (.long (own_r p1)), .second]) rfl ?_
    show Steps p.tables e below (T1.setTop (mkF m 46 #[.val (.int p1), .val (.int (own_b p1)), .val (.int (own_sized (own_b p1))), .val (.long ((own_b p1).toInt64)), .second, .val (.long (own_r p1)), .second] [])) _
    refine XS.goto X1.here hx rfl (pc0 := 46) (pc' := 59) rfl (hb hby at_46) (by decide) (by decide) ?_
    show Steps p.tables e below (T1.setTop (mkF m 59 #[.val (.int p1), .val (.int (own_b p1)), .val (.int (own_sized (own_b p1))), .val (.long ((own_b p1).toInt64)), .second, .val (.long (own_r p1)), .second] [])) _
    refine XS.iloadN X1.here hx rfl (hb hby at_59) rfl ?_
    show Steps p.tables e below (T1.setTop (mkF m 60 #[.val (.int p1), .val (.int (own_b p1)), .val (.int (own_sized (own_b p1))), .val (.long ((own_b p1).toInt64)), .second, .val (.long (own_r p1)), .second] [(.int (own_sized (own_b p1)))])) _
    refine XS.i2l X1.here hx rfl (hb hby at_60) rfl ?_
    show Steps p.tables e below (T1.setTop (mkF m 61 #[.val (.int p1), .val (.int (own_b p1)), .val (.int (own_sized (own_b p1))), .val (.long ((own_b p1).toInt64)), .second, .val (.long (own_r p1)), .second] [(.long ((own_sized (own_b p1)).toInt64))])) _
    refine XS.lloadN X1.here hx rfl (hb hby at_61) rfl ?_
    show Steps p.tables e below (T1.setTop (mkF m 62 #[.val (.int p1), .val (.int (own_b p1)), .val (.int (own_sized (own_b p1))), .val (.long ((own_b p1).toInt64)), .second, .val (.long (own_r p1)), .second] [(.long ((own_b p1).toInt64)), (.long ((own_sized (own_b p1)).toInt64))])) _
    refine XS.lcmp X1.here hx rfl (hb hby at_62) rfl ?_
    show Steps p.tables e below (T1.setTop (mkF m 63 #[.val (.int p1), .val (.int (own_b p1)), .val (.int (own_sized (own_b p1))), .val (.long ((own_b p1).toInt64)), .second, .val (.long (own_r p1)), .second] [(.int (lcmpW ((own_sized (own_b p1)).toInt64) ((own_b p1).toInt64)))])) _
    refine XS.ifNo X1.here hx rfl (hb hby at_63) rfl ((if0 _ _).trans (teq ((lw_eq ((own_sized (own_b p1)).toInt64) ((own_b p1).toInt64)).mpr hc63)).2) ?_
    show Steps p.tables e below (T1.setTop (mkF m 66 #[.val (.int p1), .val (.int (own_b p1)), .val (.int (own_sized (own_b p1))), .val (.long ((own_b p1).toInt64)), .second, .val (.long (own_r p1)), .second] [])) _
    refine XS.iconst X1.here hx rfl (hb hby at_66) ?_
    show Steps p.tables e below (T1.setTop (mkF m 67 #[.val (.int p1), .val (.int (own_b p1)), .val (.int (own_sized (own_b p1))), .val (.long ((own_b p1).toInt64)), .second, .val (.long (own_r p1)), .second] [(.int (1 : Int32))])) _
    refine XS.goto X1.here hx rfl (pc0 := 67) (pc' := 71) rfl (hb hby at_67) (by decide) (by decide) ?_
    show Steps p.tables e below (T1.setTop (mkF m 71 #[.val (.int p1), .val (.int (own_b p1)), .val (.int (own_sized (own_b p1))), .val (.long ((own_b p1).toInt64)), .second, .val (.long (own_r p1)), .second] [(.int (1 : Int32))])) _
    exact retN X1 hx (t := .boolean) Bd.returns (by simp) (hb hby at_71) hr
  · show Q_rm0 Z p1 h0 n0 _ T1.heap _
    rw [e1]
    exact ⟨rfl, N1, rfl⟩
set_option maxRecDepth 65536 in
set_option maxHeartbeats 40000000 in
theorem rm0_fft (l : Launch) (Z : State) (a0 : Array Value) (hw : ∀ d ∈ tables_1, d.before a0 Z = true) (ws : List Jvm.Cond) (p1 : Int32) (h0 : Heap) (n0 : Nat) (Z0 : n0 ≤ h0.size) (hc19 : ¬ ((own_b p1) < (16384 : Int32))) (hc40 : ¬ ((own_r p1) = (0 : Int64))) (hc63 : ((own_sized (own_b p1)).toInt64) = (((own_b p1).toInt64) + ((4096 : Int64) - (own_r p1)))) :
    MetFree l x (head1 (Jvm.Cond.code x code maxLocals ret :: ws) room_1) (fun a U => a = #[(.int p1)] ∧ Z.Warmed39 U.vm ∧ U.heap = h0) (fun _ _ _ _ _ => True) (fun _ U o U' => ∃ v L, o = .returned v ∧ Q_rm0 Z p1 h0 n0 v U'.heap L ∧ FrameEnd U o U' L room_1.cells room_1.slots) := by
  refine MetFree.of_bodySF (plainFor_of_name pn_1) hisR ?_
  intro p e s m args below meth c s₁ Bd hml0 hP hK
  obtain ⟨rfl, hZ, hh⟩ := hP
  have hx := Bd.exec
  have hby := Bd.bytes
  have hml : c.maxLocals = 7 := hml0
  have hown : s.vm.findClass "com/example/tokri/tokri/store/FreePiecesSizedPinLaw" = some m.cls := findClass_of_methodNamed Bd.named
  have hnm := (name_of_methodNamed Bd.named Bd.method).1
  have X0 : Stand p l e room_1 s m #[(.int p1)] below meth c s₁ [] 0 0 := Stand.of_body Bd
  have e0 : s₁.heap = h0 := by rw [← hh, Bd.state]; rfl
  have N0 := Fr.nil n0
  have pre0 : ∀ t, Steps p.tables e below (s₁.setTop (mkF m 0 #[.val (.int p1), .unset, .unset, .unset, .unset, .unset, .unset] [])) t → Steps p.tables e below (s₁.setTop (entryFrame m #[(.int p1)] maxLocals)) t := fun t k => castTop (ef_1 m p1) k
  obtain ⟨_, _, ⟨T1, L1, k1, n1⟩, -, X1, ⟨Lc1, hQ1, l1, y1, z1⟩, st1⟩ := Jvm.LawKit.callS X0 hx (y := (⟨"com/example/tokri/tokri/store/FreePieces", "sized", "(I)I"⟩ : MethodName)) hown (mvT hZ (hw _ (List.mem_of_getElem? (i := 2) rfl))) (mvT hZ (hw _ (List.mem_of_getElem? (i := 3) rfl))) (mvT hZ (hw _ (List.mem_of_getElem? (i := 4) rfl))) (mvT hZ (hw _ (List.mem_of_getElem? (i := 5) rfl))) (by decide) (backOf (W := 0) (rmS l Z a0 hw [] (own_b p1) h0 n0 Z0 ) hZ (hw _ (List.mem_of_getElem? (i := 5) rfl)) (hw _ (List.mem_of_getElem? (i := 4) rfl)) (by decide) (by decide)) (g := (mkF m 11 #[.val (.int p1), .val (.int (own_b p1)), .unset, .unset, .unset, .unset, .unset] [(.int (own_b p1))])) rfl (by rw [hml]; rfl) (argsL := [(.int (own_b p1))]) (rest := []) (lenOf pd_0 rfl) rfl (by show 2 * 0 + _ ≤ _; exact Nat.le_of_eq rfl) (hb hby at_11) (fun _ _ => ⟨rfl, e0, (by decide : 0 + 0 ≤ _), (by decide : 0 + 0 ≤ _)⟩)
  dsimp only [Pt.U, Pt.locs, Pt.cells, Pt.slots] at X1 l1 y1 z1 st1 hQ1
  subst l1 y1 z1
  obtain ⟨rfl, N1q, e1⟩ := hQ1
  have N1 := Fr.app N0 N1q
  obtain ⟨fs, hr, hrun, hended, hW, hsame⟩ := X1.leave (v := some (.int (1 : Int32))) (fun h => by rw [Bd.returns] at h; cases h)
  refine ⟨_, _, pre0 _ ?_, hrun, hended, _, _, rfl, ?_, ⟨_, rfl⟩, hW, hsame.mono (by decide) (by decide)⟩
  · show Steps p.tables e below (s₁.setTop (mkF m 0 #[.val (.int p1), .unset, .unset, .unset, .unset, .unset, .unset] [])) _
    refine XS.iconst X0.here hx rfl (hb hby at_0) ?_
    show Steps p.tables e below (s₁.setTop (mkF m 1 #[.val (.int p1), .unset, .unset, .unset, .unset, .unset, .unset] [(.int (1 : Int32))])) _
    refine XS.iloadN X0.here hx rfl (hb hby at_1) rfl ?_
    show Steps p.tables e below (s₁.setTop (mkF m 2 #[.val (.int p1), .unset, .unset, .unset, .unset, .unset, .unset] [(.int p1), (.int (1 : Int32))])) _
    refine X0.ldcI hx hown (mvT hZ (hw _ (List.mem_of_getElem? (i := 0) rfl))) (g := (mkF m 2 #[.val (.int p1), .unset, .unset, .unset, .unset, .unset, .unset] [(.int p1), (.int (1 : Int32))])) rfl (hb hby at_2) ?_
    show Steps p.tables e below (s₁.setTop (mkF m 4 #[.val (.int p1), .unset, .unset, .unset, .unset, .unset, .unset] [(.int (2147483647 : Int32)), (.int p1), (.int (1 : Int32))])) _
    refine XS.iand X0.here hx rfl (hb hby at_4) rfl ?_
    show Steps p.tables e below (s₁.setTop (mkF m 5 #[.val (.int p1), .unset, .unset, .unset, .unset, .unset, .unset] [(.int (p1 &&& (2147483647 : Int32))), (.int (1 : Int32))])) _
    refine X0.ldcI hx hown (mvT hZ (hw _ (List.mem_of_getElem? (i := 1) rfl))) (g := (mkF m 5 #[.val (.int p1), .unset, .unset, .unset, .unset, .unset, .unset] [(.int (p1 &&& (2147483647 : Int32))), (.int (1 : Int32))])) rfl (hb hby at_5) ?_
    show Steps p.tables e below (s₁.setTop (mkF m 7 #[.val (.int p1), .unset, .unset, .unset, .unset, .unset, .unset] [(.int (2147479552 : Int32)), (.int (p1 &&& (2147483647 : Int32))), (.int (1 : Int32))])) _
    refine iremM X0 hx rfl (hb hby at_7) rfl (by decide) ?_
    show Steps p.tables e below (s₁.setTop (mkF m 8 #[.val (.int p1), .unset, .unset, .unset, .unset, .unset, .unset] [(.int ((p1 &&& (2147483647 : Int32)) % (2147479552 : Int32))), (.int (1 : Int32))])) _
    refine XS.iadd X0.here hx rfl (hb hby at_8) rfl ?_
    show Steps p.tables e below (s₁.setTop (mkF m 9 #[.val (.int p1), .unset, .unset, .unset, .unset, .unset, .unset] [(.int (own_b p1))])) _
    refine XS.istoreN X0.here hx rfl (hb hby at_9) rfl (l' := #[.val (.int p1), .val (.int (own_b p1)), .unset, .unset, .unset, .unset, .unset]) rfl ?_
    show Steps p.tables e below (s₁.setTop (mkF m 10 #[.val (.int p1), .val (.int (own_b p1)), .unset, .unset, .unset, .unset, .unset] [])) _
    refine XS.iloadN X0.here hx rfl (hb hby at_10) rfl ?_
    show Steps p.tables e below (s₁.setTop (mkF m 11 #[.val (.int p1), .val (.int (own_b p1)), .unset, .unset, .unset, .unset, .unset] [(.int (own_b p1))])) _
    refine st1 _ ?_
    show Steps p.tables e below (T1.setTop (mkF m 14 #[.val (.int p1), .val (.int (own_b p1)), .unset, .unset, .unset, .unset, .unset] [(.int (own_sized (own_b p1)))])) _
    refine XS.istoreN X1.here hx rfl (hb hby at_14) rfl (l' := #[.val (.int p1), .val (.int (own_b p1)), .val (.int (own_sized (own_b p1))), .unset, .unset, .unset, .unset]) rfl ?_
    show Steps p.tables e below (T1.setTop (mkF m 15 #[.val (.int p1), .val (.int (own_b p1)), .val (.int (own_sized (own_b p1))), .unset, .unset, .unset, .unset] [])) _
    refine XS.iloadN X1.here hx rfl (hb hby at_15) rfl ?_
    show Steps p.tables e below (T1.setTop (mkF m 16 #[.val (.int p1), .val (.int (own_b p1)), .val (.int (own_sized (own_b p1))), .unset, .unset, .unset, .unset] [(.int (own_b p1))])) _
    refine XS.sipush X1.here hx rfl (hb hby at_16) ?_
    show Steps p.tables e below (T1.setTop (mkF m 19 #[.val (.int p1), .val (.int (own_b p1)), .val (.int (own_sized (own_b p1))), .unset, .unset, .unset, .unset] [(.int (16384 : Int32)), (.int (own_b p1))])) _
    refine XS.icmpYes X1.here hx rfl (pc0 := 19) (pc' := 28) rfl (hb hby at_19) rfl (flt hc19).2.1 (by decide) (by decide) ?_
    show Steps p.tables e below (T1.setTop (mkF m 28 #[.val (.int p1), .val (.int (own_b p1)), .val (.int (own_sized (own_b p1))), .unset, .unset, .unset, .unset] [])) _
    refine XS.iloadN X1.here hx rfl (hb hby at_28) rfl ?_
    show Steps p.tables e below (T1.setTop (mkF m 29 #[.val (.int p1), .val (.int (own_b p1)), .val (.int (own_sized (own_b p1))), .unset, .unset, .unset, .unset] [(.int (own_b p1))])) _
    refine XS.i2l X1.here hx rfl (hb hby at_29) rfl ?_
    show Steps p.tables e below (T1.setTop (mkF m 30 #[.val (.int p1), .val (.int (own_b p1)), .val (.int (own_sized (own_b p1))), .unset, .unset, .unset, .unset] [(.long ((own_b p1).toInt64))])) _
    refine X1.ldc2J hx hown (mvT hZ (hw _ (List.mem_of_getElem? (i := 6) rfl))) (g := (mkF m 30 #[.val (.int p1), .val (.int (own_b p1)), .val (.int (own_sized (own_b p1))), .unset, .unset, .unset, .unset] [(.long ((own_b p1).toInt64))])) rfl (hb hby at_30) ?_
    show Steps p.tables e below (T1.setTop (mkF m 33 #[.val (.int p1), .val (.int (own_b p1)), .val (.int (own_sized (own_b p1))), .unset, .unset, .unset, .unset] [(.long (4096 : Int64)), (.long ((own_b p1).toInt64))])) _
    refine XS.lrem X1.here hx rfl (hb hby at_33) rfl (by decide) ?_
    show Steps p.tables e below (T1.setTop (mkF m 34 #[.val (.int p1), .val (.int (own_b p1)), .val (.int (own_sized (own_b p1))), .unset, .unset, .unset, .unset] [(.long (own_r p1))])) _
    refine XS.lstore X1.here hx rfl (hb hby at_34) rfl (l' := #[.val (.int p1), .val (.int (own_b p1)), .val (.int (own_sized (own_b p1))), .unset, .unset, .val (.long (own_r p1)), .second]) rfl ?_
    show Steps p.tables e below (T1.setTop (mkF m 36 #[.val (.int p1), .val (.int (own_b p1)), .val (.int (own_sized (own_b p1))), .unset, .unset, .val (.long (own_r p1)), .second] [])) _
    refine XS.lload X1.here hx rfl (hb hby at_36) rfl ?_
    show Steps p.tables e below (T1.setTop (mkF m 38 #[.val (.int p1), .val (.int (own_b p1)), .val (.int (own_sized (own_b p1))), .unset, .unset, .val (.long (own_r p1)), .second] [(.long (own_r p1))])) _
    refine XS.lconst X1.here hx rfl (hb hby at_38) ?_
    show Steps p.tables e below (T1.setTop (mkF m 39 #[.val (.int p1), .val (.int (own_b p1)), .val (.int (own_sized (own_b p1))), .unset, .unset, .val (.long (own_r p1)), .second] [(.long (0 : Int64)), (.long (own_r p1))])) _
    refine XS.lcmp X1.here hx rfl (hb hby at_39) rfl ?_
    show Steps p.tables e below (T1.setTop (mkF m 40 #[.val (.int p1), .val (.int (own_b p1)), .val (.int (own_sized (own_b p1))), .unset, .unset, .val (.long (own_r p1)), .second] [(.int (lcmpW (own_r p1) (0 : Int64)))])) _
    refine XS.ifYes X1.here hx rfl (pc0 := 40) (pc' := 49) rfl (hb hby at_40) rfl ((if0 _ _).trans (feq (mt (lw_eq (own_r p1) (0 : Int64)).mp hc40)).2) (by decide) (by decide) ?_
    show Steps p.tables e below (T1.setTop (mkF m 49 #[.val (.int p1), .val (.int (own_b p1)), .val (.int (own_sized (own_b p1))), .unset, .unset, .val (.long (own_r p1)), .second] [])) _
    refine XS.iloadN X1.here hx rfl (hb hby at_49) rfl ?_
    show Steps p.tables e below (T1.setTop (mkF m 50 #[.val (.int p1), .val (.int (own_b p1)), .val (.int (own_sized (own_b p1))), .unset, .unset, .val (.long (own_r p1)), .second] [(.int (own_b p1))])) _
    refine XS.i2l X1.here hx rfl (hb hby at_50) rfl ?_
    show Steps p.tables e below (T1.setTop (mkF m 51 #[.val (.int p1), .val (.int (own_b p1)), .val (.int (own_sized (own_b p1))), .unset, .unset, .val (.long (own_r p1)), .second] [(.long ((own_b p1).toInt64))])) _
    refine X1.ldc2J hx hown (mvT hZ (hw _ (List.mem_of_getElem? (i := 6) rfl))) (g := (mkF m 51 #[.val (.int p1), .val (.int (own_b p1)), .val (.int (own_sized (own_b p1))), .unset, .unset, .val (.long (own_r p1)), .second] [(.long ((own_b p1).toInt64))])) rfl (hb hby at_51) ?_
    show Steps p.tables e below (T1.setTop (mkF m 54 #[.val (.int p1), .val (.int (own_b p1)), .val (.int (own_sized (own_b p1))), .unset, .unset, .val (.long (own_r p1)), .second] [(.long (4096 : Int64)), (.long ((own_b p1).toInt64))])) _
    refine XS.lload X1.here hx rfl (hb hby at_54) rfl ?_
    show Steps p.tables e below (T1.setTop (mkF m 56 #[.val (.int p1), .val (.int (own_b p1)), .val (.int (own_sized (own_b p1))), .unset, .unset, .val (.long (own_r p1)), .second] [(.long (own_r p1)), (.long (4096 : Int64)), (.long ((own_b p1).toInt64))])) _
    refine XS.lsub X1.here hx rfl (hb hby at_56) rfl ?_
    show Steps p.tables e below (T1.setTop (mkF m 57 #[.val (.int p1), .val (.int (own_b p1)), .val (.int (own_sized (own_b p1))), .unset, .unset, .val (.long (own_r p1)), .second] [(.long ((4096 : Int64) - (own_r p1))), (.long ((own_b p1).toInt64))])) _
    refine XS.ladd X1.here hx rfl (hb hby at_57) rfl ?_
    show Steps p.tables e below (T1.setTop (mkF m 58 #[.val (.int p1), .val (.int (own_b p1)), .val (.int (own_sized (own_b p1))), .unset, .unset, .val (.long (own_r p1)), .second] [(.long (((own_b p1).toInt64) + ((4096 : Int64) - (own_r p1))))])) _
    refine XS.lstoreN X1.here hx rfl (hb hby at_58) rfl (l' := #[.val (.int p1), .val (.int (own_b p1)), .val (.int (own_sized (own_b p1))), .val (.long (((own_b p1).toInt64) + ((4096 : Int64) - (own_r p1)))), .second, .val (.long (own_r p1)), .second]) rfl ?_
    show Steps p.tables e below (T1.setTop (mkF m 59 #[.val (.int p1), .val (.int (own_b p1)), .val (.int (own_sized (own_b p1))), .val (.long (((own_b p1).toInt64) + ((4096 : Int64) - (own_r p1)))), .second, .val (.long (own_r p1)), .second] [])) _
    refine XS.iloadN X1.here hx rfl (hb hby at_59) rfl ?_
    show Steps p.tables e below (T1.setTop (mkF m 60 #[.val (.int p1), .val (.int (own_b p1)), .val (.int (own_sized (own_b p1))), .val (.long (((own_b p1).toInt64) + ((4096 : Int64) - (own_r p1)))), .second, .val (.long (own_r p1)), .second] [(.int (own_sized (own_b p1)))])) _
    refine XS.i2l X1.here hx rfl (hb hby at_60) rfl ?_
    show Steps p.tables e below (T1.setTop (mkF m 61 #[.val (.int p1), .val (.int (own_b p1)), .val (.int (own_sized (own_b p1))), .val (.long (((own_b p1).toInt64) + ((4096 : Int64) - (own_r p1)))), .second, .val (.long (own_r p1)), .second] [(.long ((own_sized (own_b p1)).toInt64))])) _
    refine XS.lloadN X1.here hx rfl (hb hby at_61) rfl ?_
    show Steps p.tables e below (T1.setTop (mkF m 62 #[.val (.int p1), .val (.int (own_b p1)), .val (.int (own_sized (own_b p1))), .val (.long (((own_b p1).toInt64) + ((4096 : Int64) - (own_r p1)))), .second, .val (.long (own_r p1)), .second] [(.long (((own_b p1).toInt64) + ((4096 : Int64) - (own_r p1)))), (.long ((own_sized (own_b p1)).toInt64))])) _
    refine XS.lcmp X1.here hx rfl (hb hby at_62) rfl ?_
    show Steps p.tables e below (T1.setTop (mkF m 63 #[.val (.int p1), .val (.int (own_b p1)), .val (.int (own_sized (own_b p1))), .val (.long (((own_b p1).toInt64) + ((4096 : Int64) - (own_r p1)))), .second, .val (.long (own_r p1)), .second] [(.int (lcmpW ((own_sized (own_b p1)).toInt64) (((own_b p1).toInt64) + ((4096 : Int64) - (own_r p1)))))])) _
    refine XS.ifNo X1.here hx rfl (hb hby at_63) rfl ((if0 _ _).trans (teq ((lw_eq ((own_sized (own_b p1)).toInt64) (((own_b p1).toInt64) + ((4096 : Int64) - (own_r p1)))).mpr hc63)).2) ?_
    show Steps p.tables e below (T1.setTop (mkF m 66 #[.val (.int p1), .val (.int (own_b p1)), .val (.int (own_sized (own_b p1))), .val (.long (((own_b p1).toInt64) + ((4096 : Int64) - (own_r p1)))), .second, .val (.long (own_r p1)), .second] [])) _
    refine XS.iconst X1.here hx rfl (hb hby at_66) ?_
    show Steps p.tables e below (T1.setTop (mkF m 67 #[.val (.int p1), .val (.int (own_b p1)), .val (.int (own_sized (own_b p1))), .val (.long (((own_b p1).toInt64) + ((4096 : Int64) - (own_r p1)))), .second, .val (.long (own_r p1)), .second] [(.int (1 : Int32))])) _
    refine XS.goto X1.here hx rfl (pc0 := 67) (pc' := 71) rfl (hb hby at_67) (by decide) (by decide) ?_
    show Steps p.tables e below (T1.setTop (mkF m 71 #[.val (.int p1), .val (.int (own_b p1)), .val (.int (own_sized (own_b p1))), .val (.long (((own_b p1).toInt64) + ((4096 : Int64) - (own_r p1)))), .second, .val (.long (own_r p1)), .second] [(.int (1 : Int32))])) _
    exact retN X1 hx (t := .boolean) Bd.returns (by simp) (hb hby at_71) hr
  · show Q_rm0 Z p1 h0 n0 _ T1.heap _
    rw [e1]
    exact ⟨rfl, N1, rfl⟩
theorem rm0 (l : Launch) (Z : State) (a0 : Array Value) (hw : ∀ d ∈ tables_1, d.before a0 Z = true) (ws : List Jvm.Cond) (p1 : Int32) (h0 : Heap) (n0 : Nat) (Z0 : n0 ≤ h0.size) :
    MetFree l x (head1 (Jvm.Cond.code x code maxLocals ret :: ws) room_1) (fun a U => a = #[(.int p1)] ∧ Z.Warmed39 U.vm ∧ U.heap = h0) (fun _ _ _ _ _ => True) (fun _ U o U' => ∃ v L, o = .returned v ∧ Q_rm0 Z p1 h0 n0 v U'.heap L ∧ FrameEnd U o U' L room_1.cells room_1.slots) := by
  by_cases hc19 : (own_b p1) < (16384 : Int32)
  · skip
    by_cases hc63 : ((own_sized (own_b p1)).toInt64) = ((own_b p1).toInt64)
    · skip
      exact rm0_tt l Z a0 hw ws p1 h0 n0 Z0 hc19 hc63
    · skip
      exfalso
      exact hc63 (by unfold own_sized; rw [if_pos hc19])
  · skip
    by_cases hc40 : (own_r p1) = (0 : Int64)
    · skip
      by_cases hc63 : ((own_sized (own_b p1)).toInt64) = ((own_b p1).toInt64)
      · skip
        exact rm0_ftt l Z a0 hw ws p1 h0 n0 Z0 hc19 hc40 hc63
      · skip
        exfalso
        refine hc63 (Int64.toInt_inj.mp ?_)
        have hb := own_b_rng p1
        have hr := own_r_val p1
        have hs := own_sized_val _ hb.1 hb.2 hc19
        have z : (0 : Int64).toInt = 0 := by decide
        rw [hc40, z] at hr
        rw [c_i2l, c_i2l]
        omega
    · skip
      by_cases hc63 : ((own_sized (own_b p1)).toInt64) = (((own_b p1).toInt64) + ((4096 : Int64) - (own_r p1)))
      · skip
        exact rm0_fft l Z a0 hw ws p1 h0 n0 Z0 hc19 hc40 hc63
      · skip
        exfalso
        refine hc63 (Int64.toInt_inj.mp ?_)
        have hb := own_b_rng p1
        have hr := own_r_val p1
        have hs := own_sized_val _ hb.1 hb.2 hc19
        have z : (0 : Int64).toInt = 0 := by decide
        have k : (4096 : Int64).toInt = 4096 := by decide
        have hr0 : (own_r p1).toInt ≠ 0 := fun q => hc40 (Int64.toInt_inj.mp (by rw [q, z]))
        have a1 := c_lsub 4096 (own_r p1)
        have a2 := c_ladd (own_b p1).toInt64 (4096 - own_r p1)
        have r1 := rng64 (4096 - own_r p1)
        have r2 := rng64 ((own_b p1).toInt64 + (4096 - own_r p1))
        have i1 := c_i2l (own_b p1)
        have i2 := c_i2l (own_sized (own_b p1))
        omega
set_option maxRecDepth 65536 in
set_option maxHeartbeats 40000000 in
theorem comes_1 {Post : Tables → Env → Array Value → State → Outcome → State → Prop} (hpost : ∀ tb e args s v u, (limb_1_1.after args s (.returned v) u = true ∧ limb_1_2.after args s (.returned v) u = true ∧ True) → FrameEnd s (.returned v) u (Jvm.fieldLocs frame_1_writes args s ++ Jvm.arrayLocs frame_1_arrays args s ++ Jvm.staticLocs frame_1_statics s) 0 0 → Post tb e args s (.returned v) u) :
    ArmFor flags0 classFile x code maxLocals ret World_1 tables_1 room_1 Calls_1 rest_1 Pre_1 Post := by
  intro l hfl _ _ p e ha hc hk s m args below hf hA hF happ hP
  obtain ⟨hcalls, hrest, hpre⟩ := hP
  obtain ⟨-, -, -, hnamed, -, -, -, hat⟩ := (Spec.applies_iff hf).mp happ
  obtain ⟨hg, hn⟩ := and_e (Cond.before_iff.mp (show (Jvm.Cond.and given_1 narrow_1).before args s = true from hpre))
  obtain ⟨g0, gr0⟩ := and_e hg
  obtain ⟨w0, rfl⟩ : ∃ w0 : Value, args = #[w0] := by
    have hs : args.size = 1 := by simpa [Cond.value, given_1] using g0
    obtain ⟨L⟩ := args
    match L, hs with
    | [w0], _ => exact ⟨w0, rfl⟩
  have hw := fun d (hd : d ∈ tables_1) => atoms_spec (ws := Jvm.Cond.code x code maxLocals ret :: tables_1) hat d (List.mem_cons_of_mem _ hd)
  have hfit : Fit s := fun {y c} hc i hi => by
    obtain ⟨ha, rfl⟩ := Array.getElem?_eq_some_iff.mp hc
    have q := List.all_eq_true.mp ((Array.all_eq_true_iff_forall_mem.mp hF) _ (Array.getElem_mem ha)) i (List.mem_range.mpr hi)
    simpa [Array.getElem?_eq_getElem hi] using q
  obtain ⟨i0, ei0⟩ := is_v gr0
  obtain rfl : w0 = (.int i0) := Option.some.inj ei0
  obtain ⟨n, o, h1, h2, h3, _, L, rfl, ⟨rfl, N, -⟩, hq⟩ := rm0 l s _ hw tables_1 i0  s.heap s.heap.size (Nat.le_refl _)  p e ha hc hk s m _ below hf ((Spec.applies_iff_loose hf).mp happ).1 ⟨rfl, State.Warmed39.refl s, rfl⟩ trivial
  refine ⟨n, _, h1, h2, h3, hpost _ _ _ _ _ _ ⟨Cond.after_iff.mpr rfl, Cond.after_iff.mpr (eq_i res_at (Term.int_eval (1)) rfl), trivial⟩ ⟨hq.1, hq.2.1, (hq.2.2.sift fun y hy => Or.inr (N y hy)).mono (by decide) (by decide)⟩⟩
theorem main_1_1 : Claimed_1_1 := comes_1 fun _ _ _ _ _ _ h hF => ⟨h.1, hF⟩
theorem main_1_2 : Claimed_1_2 := comes_1 fun _ _ _ _ _ _ h hF => ⟨h.2.1, hF⟩
end Jvm.Pilot.@@N@@
namespace Jvm.Pilot.@@N@@
open Jvm Jvm.ClassFile Sem Op Lib Jvm.Free Jvm.Stand Jvm.Pilot.@@N@@.Jvm.D
/-! MADE BY PROGRAM (witnessworld.py) out of the Statement's table words and the real class files: 9 classes; the members and pool entries that the words name. The judged class is class 1, her method 1. -/
namespace start1
open Jvm.ClassFile
def u (s : String) : CpInfo := .utf8 (stringToUtf16 s)
/-- a pool by its gaps: so many unusable entries, then the entry; so many at the end -/
def gap : Nat → List CpInfo → List CpInfo
  | 0, r => r
  | n + 1, r => .unusable :: gap n r
def poolList (es : List (Nat × CpInfo)) (last : Nat) : List CpInfo := es.foldr (fun e r => gap e.1 (e.2 :: r)) (gap last [])
def pool (es : List (Nat × CpInfo)) (last : Nat) : Array CpInfo := ⟨poolList es last⟩
def fileOf (pool : Array CpInfo) (this : Nat) (attrs : Array Attribute := #[]) (ms : Array MethodInfo := #[]) (fl : Nat := 33) (sup : Nat := 0) (ifs : Array Nat := #[]) (fds : Array FieldInfo := #[]) : ClassFile where
  minorVersion := 0
  majorVersion := 65
  constantPool := pool
  accessFlags := fl
  thisClass := this
  superClass := sup
  interfaces := ifs
  fields := fds
  methods := ms
  attributes := attrs
def plain (name : String) (sup : Option ClassId) : Class where
  name := name
  kind := .ordinary
  loader := none
  accessFlags := 33
  super := sup
  interfaces := #[]
  cf := none
  fields := #[]
  methods := #[]
  instanceTypes := #[]
  staticTypes := #[]
  resolved := #[]
  callSites := []
  init := .initialized
  statics := none
  mirror := none

def pool0 : Array CpInfo := pool [(5, u "<init>"), (0, u "()V"), (1, .class_ 10), (1, u "java/lang/Object")] 113

def k0m0 : Method := { name := "<init>", desc := "()V", sig := { parameters := [], returnType := none }, accessFlags := 1, code := none }
/-- java/lang/Object -/
def k0 : Class := { plain "java/lang/Object" none with
  accessFlags := 33
  interfaces := #[]
  cf := some (fileOf pool0 8 #[] #[{ accessFlags := 1, nameIndex := 5, descriptorIndex := 6, attributes := #[] }] 33 0 #[] #[])
  fields := #[]
  methods := #[k0m0]
  instanceTypes := #[]
  staticTypes := #[]
  resolved := Array.replicate 124 none
  statics := none }

def pool1 : Array CpInfo := pool [(2, .class_ 4), (1, u "java/lang/Object"), (0, u "<init>"), (0, u "()V"), (0, .integer 2147483647), (0, .integer 2147479552), (0, .methodref 10 11), (0, .class_ 12), (0, .nameAndType 13 14), (0, u "com/example/tokri/tokri/store/FreePieces"), (0, u "sized"), (0, u "(I)I"), (0, .long 4096), (1, .class_ 18), (0, u "com/example/tokri/tokri/store/FreePiecesSizedPinLaw"), (2, u "law"), (0, u "(I)Z")] 3

def k1m0 : Method := { name := "<init>", desc := "()V", sig := { parameters := [], returnType := none }, accessFlags := 1, code := none }
def k1c1 : Code := { maxStack := 6, maxLocals := 7, code := code, exceptionTable := #[], attributes := #[] }
def k1m1 : Method := { name := "law", desc := "(I)Z", sig := { parameters := [.int], returnType := some .boolean }, accessFlags := 9, code := some k1c1 }
/-- com/example/tokri/tokri/store/FreePiecesSizedPinLaw -/
def k1 : Class := { plain "com/example/tokri/tokri/store/FreePiecesSizedPinLaw" (some 0) with
  accessFlags := 49
  interfaces := #[]
  cf := some (fileOf pool1 17 #[] #[{ accessFlags := 1, nameIndex := 5, descriptorIndex := 6, attributes := #[] }, { accessFlags := 9, nameIndex := 21, descriptorIndex := 22, attributes := #[] }] 49 2 #[] #[])
  fields := #[]
  methods := #[k1m0, k1m1]
  instanceTypes := #[]
  staticTypes := #[]
  resolved := Array.replicate 26 none
  statics := none }

def pool2 : Array CpInfo := pool [(2, .class_ 4), (1, u "java/lang/Object"), (9, .class_ 16), (1, u "com/example/tokri/tokri/store/FreePieces"), (0, u "byLength"), (0, u "Ljava/util/Map;"), (2, u "limit"), (0, u "J"), (22, u "bytes"), (40, u "STEP"), (0, u "I"), (2, u "SMALLEST"), (6, u "sized"), (0, u "(I)I")] 29

def k2c0 : Code := { maxStack := 2, maxLocals := 2, code := prog_16_method_2_code, exceptionTable := #[], attributes := #[] }
def k2m0 : Method := { name := "sized", desc := "(I)I", sig := { parameters := [.int], returnType := some .int }, accessFlags := 8, code := some k2c0 }
/-- com/example/tokri/tokri/store/FreePieces -/
def k2 : Class := { plain "com/example/tokri/tokri/store/FreePieces" (some 0) with
  accessFlags := 48
  interfaces := #[]
  cf := some (fileOf pool2 14 #[] #[{ accessFlags := 8, nameIndex := 97, descriptorIndex := 98, attributes := #[] }] 48 2 #[] #[{ accessFlags := 24, nameIndex := 86, descriptorIndex := 87, attributes := #[] }, { accessFlags := 24, nameIndex := 90, descriptorIndex := 87, attributes := #[] }, { accessFlags := 18, nameIndex := 21, descriptorIndex := 22, attributes := #[] }, { accessFlags := 18, nameIndex := 17, descriptorIndex := 18, attributes := #[] }, { accessFlags := 2, nameIndex := 45, descriptorIndex := 22, attributes := #[] }])
  fields := #[{ name := "STEP", type := .int, accessFlags := 24, slot := 0, constantValue := 0 }, { name := "SMALLEST", type := .int, accessFlags := 24, slot := 1, constantValue := 0 }, { name := "limit", type := .long, accessFlags := 18, slot := 0, constantValue := 0 }, { name := "byLength", type := (.object "java/util/Map"), accessFlags := 18, slot := 1, constantValue := 0 }, { name := "bytes", type := .long, accessFlags := 2, slot := 2, constantValue := 0 }]
  methods := #[k2m0]
  instanceTypes := #[.long, (.object "java/util/Map"), .long]
  staticTypes := #[.int, .int]
  resolved := Array.replicate 128 none
  statics := none }

def pool3 : Array CpInfo := pool [(1, u "java/lang/Cloneable"), (0, .class_ 1), (0, u "java/lang/Object"), (0, .class_ 3)] 3

/-- java/lang/Cloneable -/
def k3 : Class := { plain "java/lang/Cloneable" (some 0) with
  accessFlags := 1537
  interfaces := #[]
  cf := some (fileOf pool3 2 #[] #[] 1537 4 #[] #[])
  fields := #[]
  methods := #[]
  instanceTypes := #[]
  staticTypes := #[]
  resolved := Array.replicate 8 none
  statics := none }

def pool4 : Array CpInfo := pool [(1, u "java/io/Serializable"), (0, .class_ 1), (0, u "java/lang/Object"), (0, .class_ 3)] 3

/-- java/io/Serializable -/
def k4 : Class := { plain "java/io/Serializable" (some 0) with
  accessFlags := 1537
  interfaces := #[]
  cf := some (fileOf pool4 2 #[] #[] 1537 4 #[] #[])
  fields := #[]
  methods := #[]
  instanceTypes := #[]
  staticTypes := #[]
  resolved := Array.replicate 8 none
  statics := none }

/-- the primitive byte -/
def k5 : Class := { plain "byte" none with kind := .primitive 'B', accessFlags := 0x411 }
/-- [B -/
def k6 : Class := { plain "[B" (some 0) with kind := .array 5 .byte, interfaces := #[3, 4], accessFlags := 1041 }

/-- the primitive int -/
def k7 : Class := { plain "int" none with kind := .primitive 'I', accessFlags := 0x411 }
/-- [I -/
def k8 : Class := { plain "[I" (some 0) with kind := .array 7 .int, interfaces := #[3, 4], accessFlags := 1041 }

def heap : Heap := #[]
def classes : Array Class := #[k0, k1, k2, k3, k4, k5, k6, k7, k8]
def interned : List (Array UInt16 × Addr) := []
def slotsUsed : Nat := 0
def theMethod : MethodId := ⟨1, 1⟩
def args0 : Array Value := #[.int 5]
def aboutOver (below : List Frame) : State where
  vm := { classes := classes, interned := interned.toArray }
  heap := heap
  slotsUsed := slotsUsed
  threads := #[{ frames := .invoking theMethod args0 :: below }]
def below0 : List Frame := [.native { method := ⟨0, 0⟩, args := #[] }]
def about1 : State := aboutOver below0
def p0 : Program := .bare "" "" ""
def e0 : Env := launch0.env 0 0 0
theorem w_frames : about1.frames = Frame.invoking theMethod args0 :: below0 := rfl
set_option maxRecDepth 65536 in
theorem w_args : argsFit about1.vm theMethod args0 = true := by decide +kernel
set_option maxRecDepth 65536 in
theorem w_heap : heapFits about1 = true := by decide +kernel
set_option maxRecDepth 65536 in
theorem w_runnable : about1.curStatus? = some .runnable := by decide +kernel
set_option maxRecDepth 65536 in
theorem w_alone : about1.alone = true := by decide +kernel
set_option maxRecDepth 65536 in
theorem w_named : about1.methodNamed? x = some theMethod := by decide +kernel
set_option maxRecDepth 65536 in
theorem w_hears : about1.hears theMethod below0 = true := by decide +kernel
set_option maxRecDepth 65536 in
theorem w_ripe : about1.ripe theMethod args0 below0 = true := by decide +kernel
theorem w_running : about1.status = .running := rfl
set_option maxRecDepth 65536 in
theorem w_room : about1.hasRoom e0.platform room_1 = true :=
  launch0.hasRoom_least _ room_1 (by decide +kernel) (by decide +kernel) (by decide +kernel) (by decide +kernel) (by decide +kernel) (by decide +kernel)
theorem allAtoms_all (ts : List Jvm.Cond) (a : Array Jvm.Value) (st : Jvm.State) : (allAtoms ts).before a st = ts.all (fun c => c.before a st) := by
  induction ts with
  | nil => rfl
  | cons c t ih =>
    show (Jvm.Cond.and c (allAtoms t)).before a st = _
    rw [Jvm.Cond.before_and, ih, List.all_cons]
def words1 : List Jvm.Cond := Jvm.Cond.code x code maxLocals ret :: tables_1
/-- a 'code' word, met by the world's own term for the bytes: nothing is compared byte by byte -/
theorem code_word {y : MethodName} {bytes : ByteArray} {mx : Nat} {rt : Option FieldType} {a : Array Value} {s : State} {m : MethodId} {meth : Method} {c : Code} (h1 : s.methodNamed? y = some m) (h2 : s.vm.method? m = some meth) (h3 : meth.code = some c) (h4 : c.code = bytes)
    (h5 : (c.maxLocals == mx && c.exceptionTable.isEmpty && decide (c.maxStack ≤ mostOperands) && decide (meth.sig.returnType = rt) && !meth.locks && decide (parseMethodDescriptor y.desc = some meth.sig)) = true) : (Jvm.Cond.code y bytes mx rt).before a s = true := by
  simp only [Bool.and_eq_true, beq_iff_eq, Bool.not_eq_true', decide_eq_true_eq] at h5
  obtain ⟨⟨⟨⟨⟨g1, g2⟩, g3⟩, g4⟩, g5⟩, g6⟩ := h5
  simp [Cond.before, Cond.holds, Cond.value, h1, h2, h3, h4, g1, g2, g3, g4, g5, g6]
def isCode : Jvm.Cond → Bool
  | .code _ _ _ _ => true
  | _ => false
theorem all_split {L : List Jvm.Cond} {P : Jvm.Cond → Bool} (h1 : L.all (fun c => isCode c || P c) = true) (h2 : ∀ c ∈ L.filter isCode, P c = true) : L.all P = true := by
  refine List.all_eq_true.mpr fun c hc => ?_
  have h := List.all_eq_true.mp h1 c hc
  rcases Bool.eq_false_or_eq_true (isCode c) with hi | hi
  · exact h2 c (List.mem_filter.mpr ⟨hc, hi⟩)
  · simpa [hi] using h
set_option maxRecDepth 65536 in
theorem w_c0 : (Jvm.Cond.code x code maxLocals ret).before args0 about1 = true := code_word (m := ⟨1, 1⟩) (meth := k1m1) (c := k1c1) (by decide +kernel) rfl rfl rfl (by decide +kernel)
set_option maxRecDepth 65536 in
theorem w_c1 : (Jvm.Cond.code ({ cls := "com/example/tokri/tokri/store/FreePieces", name := "sized", desc := "(I)I" } : Jvm.MethodName) prog_16_method_2_code (2 : Nat) (Option.some Jvm.ClassFile.FieldType.int)).before args0 about1 = true := code_word (m := ⟨2, 0⟩) (meth := k2m0) (c := k2c0) (by decide +kernel) rfl rfl rfl (by decide +kernel)
def codes1 : List Jvm.Cond := [Jvm.Cond.code x code maxLocals ret, Jvm.Cond.code ({ cls := "com/example/tokri/tokri/store/FreePieces", name := "sized", desc := "(I)I" } : Jvm.MethodName) prog_16_method_2_code (2 : Nat) (Option.some Jvm.ClassFile.FieldType.int)]
set_option maxRecDepth 65536 in
theorem codes_eq : words1.filter isCode = codes1 := rfl
theorem w_codes : ∀ c ∈ words1.filter isCode, c.before args0 about1 = true := by
  rw [codes_eq]
  intro c hc
  simp only [codes1, List.mem_cons, List.not_mem_nil, or_false] at hc
  rcases hc with rfl | rfl
  · exact w_c0
  · exact w_c1
set_option maxRecDepth 65536 in
theorem w_t1 : words1.all (fun c => isCode c || c.before args0 about1) = true := by decide +kernel
theorem w_tables : (allAtoms (Jvm.Cond.code x code maxLocals ret :: tables_1)).before args0 about1 = true := by
  rw [allAtoms_all]
  show words1.all (fun c => c.before args0 about1) = true
  refine all_split ?_ w_codes
  rw [w_t1]
set_option maxRecDepth 65536 in
theorem w_case : (Jvm.Cond.and given_1 narrow_1).before args0 about1 = true := by decide +kernel
theorem w_applies : (headSpec (Jvm.Cond.code x code maxLocals ret :: tables_1) room_1).applies x e0.platform about1 = true :=
  (Spec.applies_iff w_frames).mpr ⟨w_running, w_runnable, w_alone, w_named, w_hears, w_ripe, w_room, w_tables⟩
theorem atStart : AtStart classFile x code maxLocals ret World_1 tables_1 room_1 Calls_1 rest_1 Pre_1 launch0 p0 e0 about1 theMethod args0 below0 :=
  ⟨lists_1, trivial, launch0.admits_env _ _ _, launch0.least_env, fairChoices_fair.cas, fairChoices_fair.clock, w_frames, w_args, w_heap, w_applies, trivial, trivial, w_case⟩
end start1
theorem witness_1 : WitnessClaimed_1 := ⟨start1.p0, start1.e0, start1.about1, start1.theMethod, start1.args0, start1.below0, start1.atStart⟩
end Jvm.Pilot.@@N@@
