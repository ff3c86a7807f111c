import JvmDerived
import JvmDerived.Pilot.@@N@@Statement
import JvmDerived.Pilot.@@N@@Code
set_option linter.unusedVariables false
set_option linter.unusedSimpArgs false
namespace Jvm.RoadKit
open Sem ClassFile Op Lib Jvm.Stand Jvm.Free Jvm.LawKit
section New
variable {p : Program} {l : Launch} {e : Env} {R : Room} {s : State} {m : MethodId} {args : Array Value} {below : List Frame} {meth : Method} {c : Code} {T : State} {locs : List Loc} {cells slots : Nat}
theorem retI (X : Stand p l e R s m args below meth c T locs cells slots) (hx : p.tables.exec = Jvm.exec) {pc : Nat} {Ls : Array Slot} {z : Int32} {rest : List Value} (hret : meth.sig.returnType = some .int) (hd : decode c.code pc = .ok (.ireturn, 1)) {fs : List Frame}
    (hl : ∀ (f : JFrame) (acts : List Action), f.method = m → f.locked = none → f.entered = [] → (doReturn e (T.setTop f) acts (some (.int z))).1 = T.setFrames fs) : Steps p.tables e below (T.setTop (mkF m pc Ls (.int z :: rest))) (T.setFrames fs) := by
  have hm' : T.vm.method? m = some meth := X.method'
  have hn : narrow .int (.int z) = .int z := rfl
  show Steps p.tables e below (T.setTop { method := m, pc := pc, locals := Ls, stack := _ :: rest, locked := none }) _
  jvm_step X.here [X.here.top, hx, hd, hm', hret, hn]
  first | (intro acts; rw [hl _ acts rfl rfl rfl]) | rw [hl _ _ rfl rfl rfl]
  exact Steps.refl _
theorem own_nar01 {z : Int32} (h : z = 0 ∨ z = 1) : narrow .boolean (.int z) = .int z := by rcases h with rfl | rfl <;> rfl
theorem own_fit01 {z : Int32} (h : z = 0 ∨ z = 1) : fits .boolean (.int z) = true := by rcases h with rfl | rfl <;> decide
theorem own_retZ (X : Stand p l e R s m args below meth c T locs cells slots) (hx : p.tables.exec = Jvm.exec) {pc : Nat} {Ls : Array Slot} {z : Int32} {rest : List Value} (hret : meth.sig.returnType = some .boolean) (hz : z = 0 ∨ z = 1) (hd : decode c.code pc = .ok (.ireturn, 1)) {fs : List Frame}
    (hl : ∀ (f : JFrame) (acts : List Action), f.method = m → f.locked = none → f.entered = [] → (doReturn e (T.setTop f) acts (some (.int z))).1 = T.setFrames fs) : Steps p.tables e below (T.setTop (mkF m pc Ls (.int z :: rest))) (T.setFrames fs) := by
  have hm' : T.vm.method? m = some meth := X.method'
  have hn : narrow .boolean (.int z) = .int z := own_nar01 hz
  show Steps p.tables e below (T.setTop { method := m, pc := pc, locals := Ls, stack := _ :: rest, locked := none }) _
  jvm_step X.here [X.here.top, hx, hd, hm', hret, hn]
  first | (intro acts; rw [hl _ acts rfl rfl rfl]) | rw [hl _ _ rfl rfl rfl]
  exact Steps.refl _
end New
section Own
variable {Z : State} {h h' : Heap} {C n d : String} {w : Value} {a : Addr}
theorem own_sta_keep (F : Sta Z h C n d w) {ws : List Addr} (K : Keep h h' ws) (q : ∀ (st : Addr) (cell : Cell), h[st]? = some cell → cell.vm.isStatics = true → st ∉ ws) : Sta Z h' C n d w := by
  obtain ⟨cf, i, k, f, st, cell, h1, h2, h3, h4, h5, h6, h7⟩ := F
  exact ⟨cf, i, k, f, st, cell, h1, h2, h3, h4, K.2.1 st cell h5 (q st cell h5 h6), h6, h7⟩
theorem own_eqf {args : Array Value} {s : State} {t : Term} {C n d : String} {k : Int32} {x : Addr} (h : (Jvm.Cond.eq (.field t C n d) (.int k)).value args s none s [] = some true) (ht : t.eval args s none [] s = some (.ref x)) : s.fieldOf? x C n d = some (.int k) := by
  simp only [Cond.value, Term.eval, ht, Option.bind_eq_bind, Option.bind_some] at h
  cases hv : s.fieldOf? x C n d with
  | none => simp [hv] at h
  | some v => cases v <;> simp_all
theorem own_eqL {args : Array Value} {s : State} {t : Term} {k : Int64} (h : (Jvm.Cond.eq t (.long k)).value args s none s [] = some true) : t.eval args s none [] s = some (.long k) := by
  simp only [Cond.value, Term.eval] at h
  cases hv : t.eval args s none [] s with
  | none => simp [hv] at h
  | some v => cases v <;> simp_all
theorem own_sta_keep0 (F : Sta Z h C n d w) (K : Keep h h' []) : Sta Z h' C n d w := own_sta_keep F K fun _ _ _ _ q => nomatch q
theorem own_sta_keep1 (F : Sta Z h C n d w) (K : Keep h h' [a]) {C' : String} (E : Exa Z h a C') : Sta Z h' C n d w := own_sta_keep F K fun st cell h1 h2 q => by
  cases List.mem_singleton.mp q
  obtain ⟨c2, _, g1, -, -, g4, -⟩ := E
  cases h1.symm.trans g1
  rw [h2] at g4; cases g4
end Own
end Jvm.RoadKit
namespace Jvm.Pilot.@@N@@
open Jvm Jvm.ClassFile Sem Op Lib Jvm.Free Jvm.Stand Jvm.LawKit Jvm.RoadKit Bundle Jvm.Pilot.@@N@@.Jvm.D
def own_i (p : Int32) : Int32 := (p &&& 2147483647) % 10
def own_pick (p : Int32) (c0 c1 c2 c3 c4 c5 c6 c7 c8 c9 : Addr) : Addr := if p = 0 then c0 else if p = 1 then c1 else if p = 2 then c2 else if p = 3 then c3 else if p = 4 then c4 else if p = 5 then c5 else if p = 6 then c6 else if p = 7 then c7 else if p = 8 then c8 else c9
def own_allow (p : Int32) : Int32 := if p = 0 then 1 else if p = 1 then 0 else if p = 2 then 0 else if p = 3 then 1 else if p = 4 then 1 else if p = 5 then 1 else if p = 6 then 0 else if p = 7 then 0 else if p = 8 then 1 else 0
def own_disc (a c0 c3 c4 c5 c8 : Addr) : Int32 := if a = c0 then 1 else if a = c3 then 1 else if a = c4 then 1 else if a = c5 then 1 else if a = c8 then 1 else 0
theorem own_pick_exa {Z : State} {h : Heap} {C : String} (p : Int32) {c0 c1 c2 c3 c4 c5 c6 c7 c8 c9 : Addr} (E0 : Exa Z h c0 C) (E1 : Exa Z h c1 C) (E2 : Exa Z h c2 C) (E3 : Exa Z h c3 C) (E4 : Exa Z h c4 C) (E5 : Exa Z h c5 C) (E6 : Exa Z h c6 C) (E7 : Exa Z h c7 C) (E8 : Exa Z h c8 C) (E9 : Exa Z h c9 C) : Exa Z h (own_pick p c0 c1 c2 c3 c4 c5 c6 c7 c8 c9) C := by
  unfold own_pick
  repeat' split
  all_goals assumption
theorem own_plain (p : Int32) (c0 c1 c2 c3 c4 c5 c6 c7 c8 c9 : Addr) (n1_0 : c1 ≠ c0) (n1_3 : c1 ≠ c3) (n1_4 : c1 ≠ c4) (n1_5 : c1 ≠ c5) (n1_8 : c1 ≠ c8) (n2_0 : c2 ≠ c0) (n2_3 : c2 ≠ c3) (n2_4 : c2 ≠ c4) (n2_5 : c2 ≠ c5) (n2_8 : c2 ≠ c8) (n6_0 : c6 ≠ c0) (n6_3 : c6 ≠ c3) (n6_4 : c6 ≠ c4) (n6_5 : c6 ≠ c5) (n6_8 : c6 ≠ c8) (n7_0 : c7 ≠ c0) (n7_3 : c7 ≠ c3) (n7_4 : c7 ≠ c4) (n7_5 : c7 ≠ c5) (n7_8 : c7 ≠ c8) (n9_0 : c9 ≠ c0) (n9_3 : c9 ≠ c3) (n9_4 : c9 ≠ c4) (n9_5 : c9 ≠ c5) (n9_8 : c9 ≠ c8) : own_disc (own_pick p c0 c1 c2 c3 c4 c5 c6 c7 c8 c9) c0 c3 c4 c5 c8 = own_allow p := by
  by_cases h0 : p = 0
  · have e1 : own_pick p c0 c1 c2 c3 c4 c5 c6 c7 c8 c9 = c0 := by simp only [own_pick, if_pos h0]
    have e2 : own_allow p = 1 := by simp only [own_allow, if_pos h0]
    rw [e1, e2]; unfold own_disc; simp
  by_cases h1 : p = 1
  · have e1 : own_pick p c0 c1 c2 c3 c4 c5 c6 c7 c8 c9 = c1 := by simp only [own_pick, if_neg h0, if_pos h1]
    have e2 : own_allow p = 0 := by simp only [own_allow, if_neg h0, if_pos h1]
    rw [e1, e2]; simp only [own_disc, if_neg n1_0, if_neg n1_3, if_neg n1_4, if_neg n1_5, if_neg n1_8]
  by_cases h2 : p = 2
  · have e1 : own_pick p c0 c1 c2 c3 c4 c5 c6 c7 c8 c9 = c2 := by simp only [own_pick, if_neg h0, if_neg h1, if_pos h2]
    have e2 : own_allow p = 0 := by simp only [own_allow, if_neg h0, if_neg h1, if_pos h2]
    rw [e1, e2]; simp only [own_disc, if_neg n2_0, if_neg n2_3, if_neg n2_4, if_neg n2_5, if_neg n2_8]
  by_cases h3 : p = 3
  · have e1 : own_pick p c0 c1 c2 c3 c4 c5 c6 c7 c8 c9 = c3 := by simp only [own_pick, if_neg h0, if_neg h1, if_neg h2, if_pos h3]
    have e2 : own_allow p = 1 := by simp only [own_allow, if_neg h0, if_neg h1, if_neg h2, if_pos h3]
    rw [e1, e2]; unfold own_disc; simp
  by_cases h4 : p = 4
  · have e1 : own_pick p c0 c1 c2 c3 c4 c5 c6 c7 c8 c9 = c4 := by simp only [own_pick, if_neg h0, if_neg h1, if_neg h2, if_neg h3, if_pos h4]
    have e2 : own_allow p = 1 := by simp only [own_allow, if_neg h0, if_neg h1, if_neg h2, if_neg h3, if_pos h4]
    rw [e1, e2]; unfold own_disc; simp
  by_cases h5 : p = 5
  · have e1 : own_pick p c0 c1 c2 c3 c4 c5 c6 c7 c8 c9 = c5 := by simp only [own_pick, if_neg h0, if_neg h1, if_neg h2, if_neg h3, if_neg h4, if_pos h5]
    have e2 : own_allow p = 1 := by simp only [own_allow, if_neg h0, if_neg h1, if_neg h2, if_neg h3, if_neg h4, if_pos h5]
    rw [e1, e2]; unfold own_disc; simp
  by_cases h6 : p = 6
  · have e1 : own_pick p c0 c1 c2 c3 c4 c5 c6 c7 c8 c9 = c6 := by simp only [own_pick, if_neg h0, if_neg h1, if_neg h2, if_neg h3, if_neg h4, if_neg h5, if_pos h6]
    have e2 : own_allow p = 0 := by simp only [own_allow, if_neg h0, if_neg h1, if_neg h2, if_neg h3, if_neg h4, if_neg h5, if_pos h6]
    rw [e1, e2]; simp only [own_disc, if_neg n6_0, if_neg n6_3, if_neg n6_4, if_neg n6_5, if_neg n6_8]
  by_cases h7 : p = 7
  · have e1 : own_pick p c0 c1 c2 c3 c4 c5 c6 c7 c8 c9 = c7 := by simp only [own_pick, if_neg h0, if_neg h1, if_neg h2, if_neg h3, if_neg h4, if_neg h5, if_neg h6, if_pos h7]
    have e2 : own_allow p = 0 := by simp only [own_allow, if_neg h0, if_neg h1, if_neg h2, if_neg h3, if_neg h4, if_neg h5, if_neg h6, if_pos h7]
    rw [e1, e2]; simp only [own_disc, if_neg n7_0, if_neg n7_3, if_neg n7_4, if_neg n7_5, if_neg n7_8]
  by_cases h8 : p = 8
  · have e1 : own_pick p c0 c1 c2 c3 c4 c5 c6 c7 c8 c9 = c8 := by simp only [own_pick, if_neg h0, if_neg h1, if_neg h2, if_neg h3, if_neg h4, if_neg h5, if_neg h6, if_neg h7, if_pos h8]
    have e2 : own_allow p = 1 := by simp only [own_allow, if_neg h0, if_neg h1, if_neg h2, if_neg h3, if_neg h4, if_neg h5, if_neg h6, if_neg h7, if_pos h8]
    rw [e1, e2]; unfold own_disc; simp
  have e1 : own_pick p c0 c1 c2 c3 c4 c5 c6 c7 c8 c9 = c9 := by simp only [own_pick, if_neg h0, if_neg h1, if_neg h2, if_neg h3, if_neg h4, if_neg h5, if_neg h6, if_neg h7, if_neg h8]
  have e2 : own_allow p = 0 := by simp only [own_allow, if_neg h0, if_neg h1, if_neg h2, if_neg h3, if_neg h4, if_neg h5, if_neg h6, if_neg h7, if_neg h8]
  rw [e1, e2]; simp only [own_disc, if_neg n9_0, if_neg n9_3, if_neg n9_4, if_neg n9_5, if_neg n9_8]
theorem d_method_2_code_0 : decode method_2_code 0 = .ok (.iload_n 0, 1) := by decide +kernel
theorem d_method_2_code_1 : decode method_2_code 1 = .ok (.ifCond .ne 7, 3) := by decide +kernel
theorem d_method_2_code_4 : decode method_2_code 4 = .ok (.getstatic 7, 3) := by decide +kernel
theorem d_method_2_code_7 : decode method_2_code 7 = .ok (.areturn, 1) := by decide +kernel
theorem d_method_2_code_8 : decode method_2_code 8 = .ok (.iload_n 0, 1) := by decide +kernel
theorem d_method_2_code_9 : decode method_2_code 9 = .ok (.iconst 1, 1) := by decide +kernel
theorem d_method_2_code_10 : decode method_2_code 10 = .ok (.if_icmp .ne 7, 3) := by decide +kernel
theorem d_method_2_code_13 : decode method_2_code 13 = .ok (.getstatic 13, 3) := by decide +kernel
theorem d_method_2_code_16 : decode method_2_code 16 = .ok (.areturn, 1) := by decide +kernel
theorem d_method_2_code_17 : decode method_2_code 17 = .ok (.iload_n 0, 1) := by decide +kernel
theorem d_method_2_code_18 : decode method_2_code 18 = .ok (.iconst 2, 1) := by decide +kernel
theorem d_method_2_code_19 : decode method_2_code 19 = .ok (.if_icmp .ne 7, 3) := by decide +kernel
theorem d_method_2_code_22 : decode method_2_code 22 = .ok (.getstatic 16, 3) := by decide +kernel
theorem d_method_2_code_25 : decode method_2_code 25 = .ok (.areturn, 1) := by decide +kernel
theorem d_method_2_code_26 : decode method_2_code 26 = .ok (.iload_n 0, 1) := by decide +kernel
theorem d_method_2_code_27 : decode method_2_code 27 = .ok (.iconst 3, 1) := by decide +kernel
theorem d_method_2_code_28 : decode method_2_code 28 = .ok (.if_icmp .ne 7, 3) := by decide +kernel
theorem d_method_2_code_31 : decode method_2_code 31 = .ok (.getstatic 19, 3) := by decide +kernel
theorem d_method_2_code_34 : decode method_2_code 34 = .ok (.areturn, 1) := by decide +kernel
theorem d_method_2_code_35 : decode method_2_code 35 = .ok (.iload_n 0, 1) := by decide +kernel
theorem d_method_2_code_36 : decode method_2_code 36 = .ok (.iconst 4, 1) := by decide +kernel
theorem d_method_2_code_37 : decode method_2_code 37 = .ok (.if_icmp .ne 7, 3) := by decide +kernel
theorem d_method_2_code_40 : decode method_2_code 40 = .ok (.getstatic 22, 3) := by decide +kernel
theorem d_method_2_code_43 : decode method_2_code 43 = .ok (.areturn, 1) := by decide +kernel
theorem d_method_2_code_44 : decode method_2_code 44 = .ok (.iload_n 0, 1) := by decide +kernel
theorem d_method_2_code_45 : decode method_2_code 45 = .ok (.iconst 5, 1) := by decide +kernel
theorem d_method_2_code_46 : decode method_2_code 46 = .ok (.if_icmp .ne 7, 3) := by decide +kernel
theorem d_method_2_code_49 : decode method_2_code 49 = .ok (.getstatic 25, 3) := by decide +kernel
theorem d_method_2_code_52 : decode method_2_code 52 = .ok (.areturn, 1) := by decide +kernel
theorem d_method_2_code_53 : decode method_2_code 53 = .ok (.iload_n 0, 1) := by decide +kernel
theorem d_method_2_code_54 : decode method_2_code 54 = .ok (.bipush 6, 2) := by decide +kernel
theorem d_method_2_code_56 : decode method_2_code 56 = .ok (.if_icmp .ne 7, 3) := by decide +kernel
theorem d_method_2_code_59 : decode method_2_code 59 = .ok (.getstatic 28, 3) := by decide +kernel
theorem d_method_2_code_62 : decode method_2_code 62 = .ok (.areturn, 1) := by decide +kernel
theorem d_method_2_code_63 : decode method_2_code 63 = .ok (.iload_n 0, 1) := by decide +kernel
theorem d_method_2_code_64 : decode method_2_code 64 = .ok (.bipush 7, 2) := by decide +kernel
theorem d_method_2_code_66 : decode method_2_code 66 = .ok (.if_icmp .ne 7, 3) := by decide +kernel
theorem d_method_2_code_69 : decode method_2_code 69 = .ok (.getstatic 31, 3) := by decide +kernel
theorem d_method_2_code_72 : decode method_2_code 72 = .ok (.areturn, 1) := by decide +kernel
theorem d_method_2_code_73 : decode method_2_code 73 = .ok (.iload_n 0, 1) := by decide +kernel
theorem d_method_2_code_74 : decode method_2_code 74 = .ok (.bipush 8, 2) := by decide +kernel
theorem d_method_2_code_76 : decode method_2_code 76 = .ok (.if_icmp .ne 7, 3) := by decide +kernel
theorem d_method_2_code_79 : decode method_2_code 79 = .ok (.getstatic 34, 3) := by decide +kernel
theorem d_method_2_code_82 : decode method_2_code 82 = .ok (.areturn, 1) := by decide +kernel
theorem d_method_2_code_83 : decode method_2_code 83 = .ok (.getstatic 37, 3) := by decide +kernel
theorem d_method_2_code_86 : decode method_2_code 86 = .ok (.areturn, 1) := by decide +kernel
def Q_rmP (Z : State) (p1 : Int32) (c0 : Addr) (c1 : Addr) (c2 : Addr) (c3 : Addr) (c4 : Addr) (c5 : Addr) (c6 : Addr) (c7 : Addr) (c8 : Addr) (c9 : Addr) (h0 : Heap) (n0 : Nat) (v : Option Value) (h : Heap) (L : List Loc) : Prop := v = some (.ref (own_pick p1 c0 c1 c2 c3 c4 c5 c6 c7 c8 c9)) ∧ Fr n0 L ∧ h = h0
theorem pn_0 : plainName "com/example/libfiat/libfiat/idl/CategoryDiscriminatesPinLaw" = true := by first | (simp [plainName, overriddenIn]; done) | decide +kernel
theorem ef_0 (m : MethodId) (x0 : Int32) : entryFrame m #[(.int x0)] 1 = mkF m 0 #[.val (.int x0)] [] := by first | (simp [entryFrame, mkF, argsToLocals, Value.category]; done) | rfl
set_option maxRecDepth 65536 in
set_option maxHeartbeats 40000000 in
theorem rmP_t (l : Launch) (Z : State) (a0 : Array Value) (hw : ∀ d ∈ tables_1, d.before a0 Z = true) (ws : List Jvm.Cond) (p1 : Int32) (c0 : Addr) (c1 : Addr) (c2 : Addr) (c3 : Addr) (c4 : Addr) (c5 : Addr) (c6 : Addr) (c7 : Addr) (c8 : Addr) (c9 : Addr) (h0 : Heap) (n0 : Nat) (Z0 : n0 ≤ h0.size) (S_INTEGER_ : Sta Z h0 "com/example/libfiat/libfiat/idl/IdlType$Category" "INTEGER" "Lcom/example/libfiat/libfiat/idl/IdlType$Category;" (.ref c0)) (S_FLOATING_ : Sta Z h0 "com/example/libfiat/libfiat/idl/IdlType$Category" "FLOATING" "Lcom/example/libfiat/libfiat/idl/IdlType$Category;" (.ref c1)) (S_FIXED_ : Sta Z h0 "com/example/libfiat/libfiat/idl/IdlType$Category" "FIXED" "Lcom/example/libfiat/libfiat/idl/IdlType$Category;" (.ref c2)) (S_CHARACTER_ : Sta Z h0 "com/example/libfiat/libfiat/idl/IdlType$Category" "CHARACTER" "Lcom/example/libfiat/libfiat/idl/IdlType$Category;" (.ref c3)) (S_WIDE_CHARACTER_ : Sta Z h0 "com/example/libfiat/libfiat/idl/IdlType$Category" "WIDE_CHARACTER" "Lcom/example/libfiat/libfiat/idl/IdlType$Category;" (.ref c4)) (S_BOOLEAN_ : Sta Z h0 "com/example/libfiat/libfiat/idl/IdlType$Category" "BOOLEAN" "Lcom/example/libfiat/libfiat/idl/IdlType$Category;" (.ref c5)) (S_STRING_ : Sta Z h0 "com/example/libfiat/libfiat/idl/IdlType$Category" "STRING" "Lcom/example/libfiat/libfiat/idl/IdlType$Category;" (.ref c6)) (S_WIDE_STRING_ : Sta Z h0 "com/example/libfiat/libfiat/idl/IdlType$Category" "WIDE_STRING" "Lcom/example/libfiat/libfiat/idl/IdlType$Category;" (.ref c7)) (S_ENUMERATION_ : Sta Z h0 "com/example/libfiat/libfiat/idl/IdlType$Category" "ENUMERATION" "Lcom/example/libfiat/libfiat/idl/IdlType$Category;" (.ref c8)) (S_NONE_ : Sta Z h0 "com/example/libfiat/libfiat/idl/IdlType$Category" "NONE" "Lcom/example/libfiat/libfiat/idl/IdlType$Category;" (.ref c9)) (hc1 : p1 = (0 : Int32)) (hres : (own_pick p1 c0 c1 c2 c3 c4 c5 c6 c7 c8 c9) = c0) :
    MetFree l (⟨"com/example/libfiat/libfiat/idl/CategoryDiscriminatesPinLaw", "pick", "(I)Lcom/example/libfiat/libfiat/idl/IdlType$Category;"⟩ : MethodName) (head1 (Jvm.Cond.code (⟨"com/example/libfiat/libfiat/idl/CategoryDiscriminatesPinLaw", "pick", "(I)Lcom/example/libfiat/libfiat/idl/IdlType$Category;"⟩ : MethodName) method_2_code 1 (some (.object "com/example/libfiat/libfiat/idl/IdlType$Category")) :: ws) ({ frames := 0, cells := 0, slots := 0, locals := 0 } : Room)) (fun a U => a = #[(.int p1)] ∧ Z.Warmed39 U.vm ∧ U.heap = h0) (fun _ _ _ _ _ => True) (fun _ U o U' => ∃ v L, o = .returned v ∧ Q_rmP Z p1 c0 c1 c2 c3 c4 c5 c6 c7 c8 c9 h0 n0 v U'.heap L ∧ FrameEnd U o U' L ({ frames := 0, cells := 0, slots := 0, locals := 0 } : Room).cells ({ frames := 0, cells := 0, slots := 0, locals := 0 } : Room).slots) := by
  refine MetFree.of_bodySF (plainFor_of_name pn_0) hisR ?_
  intro p e s m args below meth c s₁ Bd hml0 hP hK
  obtain ⟨rfl, hZ, hh⟩ := hP
  have hx := Bd.exec
  have hby := Bd.bytes
  have hml : c.maxLocals = 1 := hml0
  have hown : s.vm.findClass "com/example/libfiat/libfiat/idl/CategoryDiscriminatesPinLaw" = some m.cls := findClass_of_methodNamed Bd.named
  have hnm := (name_of_methodNamed Bd.named Bd.method).1
  have X0 : Stand p l e ({ frames := 0, cells := 0, slots := 0, locals := 0 } : Room) s m #[(.int p1)] below meth c s₁ [] 0 0 := Stand.of_body Bd
  have e0 : s₁.heap = h0 := by rw [← hh, Bd.state]; rfl
  have N0 := Fr.nil n0
  have pre0 : ∀ t, Steps p.tables e below (s₁.setTop (mkF m 0 #[.val (.int p1)] [])) t → Steps p.tables e below (s₁.setTop (entryFrame m #[(.int p1)] 1)) t := fun t k => castTop (ef_0 m p1) k
  obtain ⟨T1, X1, e1, st1⟩ := getS2 X0 hx hZ hown (host := "") (Or.inl (hw _ (List.mem_of_getElem? (i := 5) rfl))) Via.refl e0 S_INTEGER_ (g := (mkF m 4 #[.val (.int p1)] [])) rfl (hb hby d_method_2_code_4)
  obtain ⟨fs, hr, hrun, hended, hW, hsame⟩ := X1.leave (v := some (.ref c0)) (fun h => by rw [Bd.returns] at h; cases h)
  refine ⟨_, _, pre0 _ ?_, hrun, hended, _, _, rfl, ?_, ⟨_, rfl⟩, hW, hsame.mono (by decide) (by decide)⟩
  · show Steps p.tables e below (s₁.setTop (mkF m 0 #[.val (.int p1)] [])) _
    refine XS.iloadN X0.here hx rfl (hb hby d_method_2_code_0) rfl ?_
    show Steps p.tables e below (s₁.setTop (mkF m 1 #[.val (.int p1)] [(.int p1)])) _
    refine XS.ifNo X0.here hx rfl (hb hby d_method_2_code_1) rfl ((if0 _ _).trans (teq hc1).2) ?_
    show Steps p.tables e below (s₁.setTop (mkF m 4 #[.val (.int p1)] [])) _
    refine st1 _ ?_
    show Steps p.tables e below (T1.setTop (mkF m 7 #[.val (.int p1)] [(.ref c0)])) _
    exact X1.areturnOut hx rfl Bd.returns rfl (hb hby d_method_2_code_7) hr
  · show Q_rmP Z p1 c0 c1 c2 c3 c4 c5 c6 c7 c8 c9 h0 n0 _ T1.heap _
    rw [e1]
    exact ⟨by rw [hres], N0, rfl⟩
set_option maxRecDepth 65536 in
set_option maxHeartbeats 40000000 in
theorem rmP_ft (l : Launch) (Z : State) (a0 : Array Value) (hw : ∀ d ∈ tables_1, d.before a0 Z = true) (ws : List Jvm.Cond) (p1 : Int32) (c0 : Addr) (c1 : Addr) (c2 : Addr) (c3 : Addr) (c4 : Addr) (c5 : Addr) (c6 : Addr) (c7 : Addr) (c8 : Addr) (c9 : Addr) (h0 : Heap) (n0 : Nat) (Z0 : n0 ≤ h0.size) (S_INTEGER_ : Sta Z h0 "com/example/libfiat/libfiat/idl/IdlType$Category" "INTEGER" "Lcom/example/libfiat/libfiat/idl/IdlType$Category;" (.ref c0)) (S_FLOATING_ : Sta Z h0 "com/example/libfiat/libfiat/idl/IdlType$Category" "FLOATING" "Lcom/example/libfiat/libfiat/idl/IdlType$Category;" (.ref c1)) (S_FIXED_ : Sta Z h0 "com/example/libfiat/libfiat/idl/IdlType$Category" "FIXED" "Lcom/example/libfiat/libfiat/idl/IdlType$Category;" (.ref c2)) (S_CHARACTER_ : Sta Z h0 "com/example/libfiat/libfiat/idl/IdlType$Category" "CHARACTER" "Lcom/example/libfiat/libfiat/idl/IdlType$Category;" (.ref c3)) (S_WIDE_CHARACTER_ : Sta Z h0 "com/example/libfiat/libfiat/idl/IdlType$Category" "WIDE_CHARACTER" "Lcom/example/libfiat/libfiat/idl/IdlType$Category;" (.ref c4)) (S_BOOLEAN_ : Sta Z h0 "com/example/libfiat/libfiat/idl/IdlType$Category" "BOOLEAN" "Lcom/example/libfiat/libfiat/idl/IdlType$Category;" (.ref c5)) (S_STRING_ : Sta Z h0 "com/example/libfiat/libfiat/idl/IdlType$Category" "STRING" "Lcom/example/libfiat/libfiat/idl/IdlType$Category;" (.ref c6)) (S_WIDE_STRING_ : Sta Z h0 "com/example/libfiat/libfiat/idl/IdlType$Category" "WIDE_STRING" "Lcom/example/libfiat/libfiat/idl/IdlType$Category;" (.ref c7)) (S_ENUMERATION_ : Sta Z h0 "com/example/libfiat/libfiat/idl/IdlType$Category" "ENUMERATION" "Lcom/example/libfiat/libfiat/idl/IdlType$Category;" (.ref c8)) (S_NONE_ : Sta Z h0 "com/example/libfiat/libfiat/idl/IdlType$Category" "NONE" "Lcom/example/libfiat/libfiat/idl/IdlType$Category;" (.ref c9)) (hc1 : ¬ (p1 = (0 : Int32))) (hc10 : p1 = (1 : Int32)) (hres : (own_pick p1 c0 c1 c2 c3 c4 c5 c6 c7 c8 c9) = c1) :
    MetFree l (⟨"com/example/libfiat/libfiat/idl/CategoryDiscriminatesPinLaw", "pick", "(I)Lcom/example/libfiat/libfiat/idl/IdlType$Category;"⟩ : MethodName) (head1 (Jvm.Cond.code (⟨"com/example/libfiat/libfiat/idl/CategoryDiscriminatesPinLaw", "pick", "(I)Lcom/example/libfiat/libfiat/idl/IdlType$Category;"⟩ : MethodName) method_2_code 1 (some (.object "com/example/libfiat/libfiat/idl/IdlType$Category")) :: ws) ({ frames := 0, cells := 0, slots := 0, locals := 0 } : Room)) (fun a U => a = #[(.int p1)] ∧ Z.Warmed39 U.vm ∧ U.heap = h0) (fun _ _ _ _ _ => True) (fun _ U o U' => ∃ v L, o = .returned v ∧ Q_rmP Z p1 c0 c1 c2 c3 c4 c5 c6 c7 c8 c9 h0 n0 v U'.heap L ∧ FrameEnd U o U' L ({ frames := 0, cells := 0, slots := 0, locals := 0 } : Room).cells ({ frames := 0, cells := 0, slots := 0, locals := 0 } : Room).slots) := by
  refine MetFree.of_bodySF (plainFor_of_name pn_0) hisR ?_
  intro p e s m args below meth c s₁ Bd hml0 hP hK
  obtain ⟨rfl, hZ, hh⟩ := hP
  have hx := Bd.exec
  have hby := Bd.bytes
  have hml : c.maxLocals = 1 := hml0
  have hown : s.vm.findClass "com/example/libfiat/libfiat/idl/CategoryDiscriminatesPinLaw" = some m.cls := findClass_of_methodNamed Bd.named
  have hnm := (name_of_methodNamed Bd.named Bd.method).1
  have X0 : Stand p l e ({ frames := 0, cells := 0, slots := 0, locals := 0 } : Room) s m #[(.int p1)] below meth c s₁ [] 0 0 := Stand.of_body Bd
  have e0 : s₁.heap = h0 := by rw [← hh, Bd.state]; rfl
  have N0 := Fr.nil n0
  have pre0 : ∀ t, Steps p.tables e below (s₁.setTop (mkF m 0 #[.val (.int p1)] [])) t → Steps p.tables e below (s₁.setTop (entryFrame m #[(.int p1)] 1)) t := fun t k => castTop (ef_0 m p1) k
  obtain ⟨T1, X1, e1, st1⟩ := getS2 X0 hx hZ hown (host := "") (Or.inl (hw _ (List.mem_of_getElem? (i := 20) rfl))) Via.refl e0 S_FLOATING_ (g := (mkF m 13 #[.val (.int p1)] [])) rfl (hb hby d_method_2_code_13)
  obtain ⟨fs, hr, hrun, hended, hW, hsame⟩ := X1.leave (v := some (.ref c1)) (fun h => by rw [Bd.returns] at h; cases h)
  refine ⟨_, _, pre0 _ ?_, hrun, hended, _, _, rfl, ?_, ⟨_, rfl⟩, hW, hsame.mono (by decide) (by decide)⟩
  · show Steps p.tables e below (s₁.setTop (mkF m 0 #[.val (.int p1)] [])) _
    refine XS.iloadN X0.here hx rfl (hb hby d_method_2_code_0) rfl ?_
    show Steps p.tables e below (s₁.setTop (mkF m 1 #[.val (.int p1)] [(.int p1)])) _
    refine XS.ifYes X0.here hx rfl (pc0 := 1) (pc' := 8) rfl (hb hby d_method_2_code_1) rfl ((if0 _ _).trans (feq hc1).2) (by decide) (by decide) ?_
    show Steps p.tables e below (s₁.setTop (mkF m 8 #[.val (.int p1)] [])) _
    refine XS.iloadN X0.here hx rfl (hb hby d_method_2_code_8) rfl ?_
    show Steps p.tables e below (s₁.setTop (mkF m 9 #[.val (.int p1)] [(.int p1)])) _
    refine XS.iconst X0.here hx rfl (hb hby d_method_2_code_9) ?_
    show Steps p.tables e below (s₁.setTop (mkF m 10 #[.val (.int p1)] [(.int (1 : Int32)), (.int p1)])) _
    refine XS.icmpNo X0.here hx rfl (hb hby d_method_2_code_10) rfl (teq hc10).2 ?_
    show Steps p.tables e below (s₁.setTop (mkF m 13 #[.val (.int p1)] [])) _
    refine st1 _ ?_
    show Steps p.tables e below (T1.setTop (mkF m 16 #[.val (.int p1)] [(.ref c1)])) _
    exact X1.areturnOut hx rfl Bd.returns rfl (hb hby d_method_2_code_16) hr
  · show Q_rmP Z p1 c0 c1 c2 c3 c4 c5 c6 c7 c8 c9 h0 n0 _ T1.heap _
    rw [e1]
    exact ⟨by rw [hres], N0, rfl⟩
set_option maxRecDepth 65536 in
set_option maxHeartbeats 40000000 in
theorem rmP_fft (l : Launch) (Z : State) (a0 : Array Value) (hw : ∀ d ∈ tables_1, d.before a0 Z = true) (ws : List Jvm.Cond) (p1 : Int32) (c0 : Addr) (c1 : Addr) (c2 : Addr) (c3 : Addr) (c4 : Addr) (c5 : Addr) (c6 : Addr) (c7 : Addr) (c8 : Addr) (c9 : Addr) (h0 : Heap) (n0 : Nat) (Z0 : n0 ≤ h0.size) (S_INTEGER_ : Sta Z h0 "com/example/libfiat/libfiat/idl/IdlType$Category" "INTEGER" "Lcom/example/libfiat/libfiat/idl/IdlType$Category;" (.ref c0)) (S_FLOATING_ : Sta Z h0 "com/example/libfiat/libfiat/idl/IdlType$Category" "FLOATING" "Lcom/example/libfiat/libfiat/idl/IdlType$Category;" (.ref c1)) (S_FIXED_ : Sta Z h0 "com/example/libfiat/libfiat/idl/IdlType$Category" "FIXED" "Lcom/example/libfiat/libfiat/idl/IdlType$Category;" (.ref c2)) (S_CHARACTER_ : Sta Z h0 "com/example/libfiat/libfiat/idl/IdlType$Category" "CHARACTER" "Lcom/example/libfiat/libfiat/idl/IdlType$Category;" (.ref c3)) (S_WIDE_CHARACTER_ : Sta Z h0 "com/example/libfiat/libfiat/idl/IdlType$Category" "WIDE_CHARACTER" "Lcom/example/libfiat/libfiat/idl/IdlType$Category;" (.ref c4)) (S_BOOLEAN_ : Sta Z h0 "com/example/libfiat/libfiat/idl/IdlType$Category" "BOOLEAN" "Lcom/example/libfiat/libfiat/idl/IdlType$Category;" (.ref c5)) (S_STRING_ : Sta Z h0 "com/example/libfiat/libfiat/idl/IdlType$Category" "STRING" "Lcom/example/libfiat/libfiat/idl/IdlType$Category;" (.ref c6)) (S_WIDE_STRING_ : Sta Z h0 "com/example/libfiat/libfiat/idl/IdlType$Category" "WIDE_STRING" "Lcom/example/libfiat/libfiat/idl/IdlType$Category;" (.ref c7)) (S_ENUMERATION_ : Sta Z h0 "com/example/libfiat/libfiat/idl/IdlType$Category" "ENUMERATION" "Lcom/example/libfiat/libfiat/idl/IdlType$Category;" (.ref c8)) (S_NONE_ : Sta Z h0 "com/example/libfiat/libfiat/idl/IdlType$Category" "NONE" "Lcom/example/libfiat/libfiat/idl/IdlType$Category;" (.ref c9)) (hc1 : ¬ (p1 = (0 : Int32))) (hc10 : ¬ (p1 = (1 : Int32))) (hc19 : p1 = (2 : Int32)) (hres : (own_pick p1 c0 c1 c2 c3 c4 c5 c6 c7 c8 c9) = c2) :
    MetFree l (⟨"com/example/libfiat/libfiat/idl/CategoryDiscriminatesPinLaw", "pick", "(I)Lcom/example/libfiat/libfiat/idl/IdlType$Category;"⟩ : MethodName) (head1 (Jvm.Cond.code (⟨"com/example/libfiat/libfiat/idl/CategoryDiscriminatesPinLaw", "pick", "(I)Lcom/example/libfiat/libfiat/idl/IdlType$Category;"⟩ : MethodName) method_2_code 1 (some (.object "com/example/libfiat/libfiat/idl/IdlType$Category")) :: ws) ({ frames := 0, cells := 0, slots := 0, locals := 0 } : Room)) (fun a U => a = #[(.int p1)] ∧ Z.Warmed39 U.vm ∧ U.heap = h0) (fun _ _ _ _ _ => True) (fun _ U o U' => ∃ v L, o = .returned v ∧ Q_rmP Z p1 c0 c1 c2 c3 c4 c5 c6 c7 c8 c9 h0 n0 v U'.heap L ∧ FrameEnd U o U' L ({ frames := 0, cells := 0, slots := 0, locals := 0 } : Room).cells ({ frames := 0, cells := 0, slots := 0, locals := 0 } : Room).slots) := by
  refine MetFree.of_bodySF (plainFor_of_name pn_0) hisR ?_
  intro p e s m args below meth c s₁ Bd hml0 hP hK
  obtain ⟨rfl, hZ, hh⟩ := hP
  have hx := Bd.exec
  have hby := Bd.bytes
  have hml : c.maxLocals = 1 := hml0
  have hown : s.vm.findClass "com/example/libfiat/libfiat/idl/CategoryDiscriminatesPinLaw" = some m.cls := findClass_of_methodNamed Bd.named
  have hnm := (name_of_methodNamed Bd.named Bd.method).1
  have X0 : Stand p l e ({ frames := 0, cells := 0, slots := 0, locals := 0 } : Room) s m #[(.int p1)] below meth c s₁ [] 0 0 := Stand.of_body Bd
  have e0 : s₁.heap = h0 := by rw [← hh, Bd.state]; rfl
  have N0 := Fr.nil n0
  have pre0 : ∀ t, Steps p.tables e below (s₁.setTop (mkF m 0 #[.val (.int p1)] [])) t → Steps p.tables e below (s₁.setTop (entryFrame m #[(.int p1)] 1)) t := fun t k => castTop (ef_0 m p1) k
  obtain ⟨T1, X1, e1, st1⟩ := getS2 X0 hx hZ hown (host := "") (Or.inl (hw _ (List.mem_of_getElem? (i := 31) rfl))) Via.refl e0 S_FIXED_ (g := (mkF m 22 #[.val (.int p1)] [])) rfl (hb hby d_method_2_code_22)
  obtain ⟨fs, hr, hrun, hended, hW, hsame⟩ := X1.leave (v := some (.ref c2)) (fun h => by rw [Bd.returns] at h; cases h)
  refine ⟨_, _, pre0 _ ?_, hrun, hended, _, _, rfl, ?_, ⟨_, rfl⟩, hW, hsame.mono (by decide) (by decide)⟩
  · show Steps p.tables e below (s₁.setTop (mkF m 0 #[.val (.int p1)] [])) _
    refine XS.iloadN X0.here hx rfl (hb hby d_method_2_code_0) rfl ?_
    show Steps p.tables e below (s₁.setTop (mkF m 1 #[.val (.int p1)] [(.int p1)])) _
    refine XS.ifYes X0.here hx rfl (pc0 := 1) (pc' := 8) rfl (hb hby d_method_2_code_1) rfl ((if0 _ _).trans (feq hc1).2) (by decide) (by decide) ?_
    show Steps p.tables e below (s₁.setTop (mkF m 8 #[.val (.int p1)] [])) _
    refine XS.iloadN X0.here hx rfl (hb hby d_method_2_code_8) rfl ?_
    show Steps p.tables e below (s₁.setTop (mkF m 9 #[.val (.int p1)] [(.int p1)])) _
    refine XS.iconst X0.here hx rfl (hb hby d_method_2_code_9) ?_
    show Steps p.tables e below (s₁.setTop (mkF m 10 #[.val (.int p1)] [(.int (1 : Int32)), (.int p1)])) _
    refine XS.icmpYes X0.here hx rfl (pc0 := 10) (pc' := 17) rfl (hb hby d_method_2_code_10) rfl (feq hc10).2 (by decide) (by decide) ?_
    show Steps p.tables e below (s₁.setTop (mkF m 17 #[.val (.int p1)] [])) _
    refine XS.iloadN X0.here hx rfl (hb hby d_method_2_code_17) rfl ?_
    show Steps p.tables e below (s₁.setTop (mkF m 18 #[.val (.int p1)] [(.int p1)])) _
    refine XS.iconst X0.here hx rfl (hb hby d_method_2_code_18) ?_
    show Steps p.tables e below (s₁.setTop (mkF m 19 #[.val (.int p1)] [(.int (2 : Int32)), (.int p1)])) _
    refine XS.icmpNo X0.here hx rfl (hb hby d_method_2_code_19) rfl (teq hc19).2 ?_
    show Steps p.tables e below (s₁.setTop (mkF m 22 #[.val (.int p1)] [])) _
    refine st1 _ ?_
    show Steps p.tables e below (T1.setTop (mkF m 25 #[.val (.int p1)] [(.ref c2)])) _
    exact X1.areturnOut hx rfl Bd.returns rfl (hb hby d_method_2_code_25) hr
  · show Q_rmP Z p1 c0 c1 c2 c3 c4 c5 c6 c7 c8 c9 h0 n0 _ T1.heap _
    rw [e1]
    exact ⟨by rw [hres], N0, rfl⟩
set_option maxRecDepth 65536 in
set_option maxHeartbeats 40000000 in
theorem rmP_ffft (l : Launch) (Z : State) (a0 : Array Value) (hw : ∀ d ∈ tables_1, d.before a0 Z = true) (ws : List Jvm.Cond) (p1 : Int32) (c0 : Addr) (c1 : Addr) (c2 : Addr) (c3 : Addr) (c4 : Addr) (c5 : Addr) (c6 : Addr) (c7 : Addr) (c8 : Addr) (c9 : Addr) (h0 : Heap) (n0 : Nat) (Z0 : n0 ≤ h0.size) (S_INTEGER_ : Sta Z h0 "com/example/libfiat/libfiat/idl/IdlType$Category" "INTEGER" "Lcom/example/libfiat/libfiat/idl/IdlType$Category;" (.ref c0)) (S_FLOATING_ : Sta Z h0 "com/example/libfiat/libfiat/idl/IdlType$Category" "FLOATING" "Lcom/example/libfiat/libfiat/idl/IdlType$Category;" (.ref c1)) (S_FIXED_ : Sta Z h0 "com/example/libfiat/libfiat/idl/IdlType$Category" "FIXED" "Lcom/example/libfiat/libfiat/idl/IdlType$Category;" (.ref c2)) (S_CHARACTER_ : Sta Z h0 "com/example/libfiat/libfiat/idl/IdlType$Category" "CHARACTER" "Lcom/example/libfiat/libfiat/idl/IdlType$Category;" (.ref c3)) (S_WIDE_CHARACTER_ : Sta Z h0 "com/example/libfiat/libfiat/idl/IdlType$Category" "WIDE_CHARACTER" "Lcom/example/libfiat/libfiat/idl/IdlType$Category;" (.ref c4)) (S_BOOLEAN_ : Sta Z h0 "com/example/libfiat/libfiat/idl/IdlType$Category" "BOOLEAN" "Lcom/example/libfiat/libfiat/idl/IdlType$Category;" (.ref c5)) (S_STRING_ : Sta Z h0 "com/example/libfiat/libfiat/idl/IdlType$Category" "STRING" "Lcom/example/libfiat/libfiat/idl/IdlType$Category;" (.ref c6)) (S_WIDE_STRING_ : Sta Z h0 "com/example/libfiat/libfiat/idl/IdlType$Category" "WIDE_STRING" "Lcom/example/libfiat/libfiat/idl/IdlType$Category;" (.ref c7)) (S_ENUMERATION_ : Sta Z h0 "com/example/libfiat/libfiat/idl/IdlType$Category" "ENUMERATION" "Lcom/example/libfiat/libfiat/idl/IdlType$Category;" (.ref c8)) (S_NONE_ : Sta Z h0 "com/example/libfiat/libfiat/idl/IdlType$Category" "NONE" "Lcom/example/libfiat/libfiat/idl/IdlType$Category;" (.ref c9)) (hc1 : ¬ (p1 = (0 : Int32))) (hc10 : ¬ (p1 = (1 : Int32))) (hc19 : ¬ (p1 = (2 : Int32))) (hc28 : p1 = (3 : Int32)) (hres : (own_pick p1 c0 c1 c2 c3 c4 c5 c6 c7 c8 c9) = c3) :
    MetFree l (⟨"com/example/libfiat/libfiat/idl/CategoryDiscriminatesPinLaw", "pick", "(I)Lcom/example/libfiat/libfiat/idl/IdlType$Category;"⟩ : MethodName) (head1 (Jvm.Cond.code (⟨"com/example/libfiat/libfiat/idl/CategoryDiscriminatesPinLaw", "pick", "(I)Lcom/example/libfiat/libfiat/idl/IdlType$Category;"⟩ : MethodName) method_2_code 1 (some (.object "com/example/libfiat/libfiat/idl/IdlType$Category")) :: ws) ({ frames := 0, cells := 0, slots := 0, locals := 0 } : Room)) (fun a U => a = #[(.int p1)] ∧ Z.Warmed39 U.vm ∧ U.heap = h0) (fun _ _ _ _ _ => True) (fun _ U o U' => ∃ v L, o = .returned v ∧ Q_rmP Z p1 c0 c1 c2 c3 c4 c5 c6 c7 c8 c9 h0 n0 v U'.heap L ∧ FrameEnd U o U' L ({ frames := 0, cells := 0, slots := 0, locals := 0 } : Room).cells ({ frames := 0, cells := 0, slots := 0, locals := 0 } : Room).slots) := by
  refine MetFree.of_bodySF (plainFor_of_name pn_0) hisR ?_
  intro p e s m args below meth c s₁ Bd hml0 hP hK
  obtain ⟨rfl, hZ, hh⟩ := hP
  have hx := Bd.exec
  have hby := Bd.bytes
  have hml : c.maxLocals = 1 := hml0
  have hown : s.vm.findClass "com/example/libfiat/libfiat/idl/CategoryDiscriminatesPinLaw" = some m.cls := findClass_of_methodNamed Bd.named
  have hnm := (name_of_methodNamed Bd.named Bd.method).1
  have X0 : Stand p l e ({ frames := 0, cells := 0, slots := 0, locals := 0 } : Room) s m #[(.int p1)] below meth c s₁ [] 0 0 := Stand.of_body Bd
  have e0 : s₁.heap = h0 := by rw [← hh, Bd.state]; rfl
  have N0 := Fr.nil n0
  have pre0 : ∀ t, Steps p.tables e below (s₁.setTop (mkF m 0 #[.val (.int p1)] [])) t → Steps p.tables e below (s₁.setTop (entryFrame m #[(.int p1)] 1)) t := fun t k => castTop (ef_0 m p1) k
  obtain ⟨T1, X1, e1, st1⟩ := getS2 X0 hx hZ hown (host := "") (Or.inl (hw _ (List.mem_of_getElem? (i := 17) rfl))) Via.refl e0 S_CHARACTER_ (g := (mkF m 31 #[.val (.int p1)] [])) rfl (hb hby d_method_2_code_31)
  obtain ⟨fs, hr, hrun, hended, hW, hsame⟩ := X1.leave (v := some (.ref c3)) (fun h => by rw [Bd.returns] at h; cases h)
  refine ⟨_, _, pre0 _ ?_, hrun, hended, _, _, rfl, ?_, ⟨_, rfl⟩, hW, hsame.mono (by decide) (by decide)⟩
  · show Steps p.tables e below (s₁.setTop (mkF m 0 #[.val (.int p1)] [])) _
    refine XS.iloadN X0.here hx rfl (hb hby d_method_2_code_0) rfl ?_
    show Steps p.tables e below (s₁.setTop (mkF m 1 #[.val (.int p1)] [(.int p1)])) _
    refine XS.ifYes X0.here hx rfl (pc0 := 1) (pc' := 8) rfl (hb hby d_method_2_code_1) rfl ((if0 _ _).trans (feq hc1).2) (by decide) (by decide) ?_
    show Steps p.tables e below (s₁.setTop (mkF m 8 #[.val (.int p1)] [])) _
    refine XS.iloadN X0.here hx rfl (hb hby d_method_2_code_8) rfl ?_
    show Steps p.tables e below (s₁.setTop (mkF m 9 #[.val (.int p1)] [(.int p1)])) _
    refine XS.iconst X0.here hx rfl (hb hby d_method_2_code_9) ?_
    show Steps p.tables e below (s₁.setTop (mkF m 10 #[.val (.int p1)] [(.int (1 : Int32)), (.int p1)])) _
    refine XS.icmpYes X0.here hx rfl (pc0 := 10) (pc' := 17) rfl (hb hby d_method_2_code_10) rfl (feq hc10).2 (by decide) (by decide) ?_
    show Steps p.tables e below (s₁.setTop (mkF m 17 #[.val (.int p1)] [])) _
    refine XS.iloadN X0.here hx rfl (hb hby d_method_2_code_17) rfl ?_
    show Steps p.tables e below (s₁.setTop (mkF m 18 #[.val (.int p1)] [(.int p1)])) _
    refine XS.iconst X0.here hx rfl (hb hby d_method_2_code_18) ?_
    show Steps p.tables e below (s₁.setTop (mkF m 19 #[.val (.int p1)] [(.int (2 : Int32)), (.int p1)])) _
    refine XS.icmpYes X0.here hx rfl (pc0 := 19) (pc' := 26) rfl (hb hby d_method_2_code_19) rfl (feq hc19).2 (by decide) (by decide) ?_
    show Steps p.tables e below (s₁.setTop (mkF m 26 #[.val (.int p1)] [])) _
    refine XS.iloadN X0.here hx rfl (hb hby d_method_2_code_26) rfl ?_
    show Steps p.tables e below (s₁.setTop (mkF m 27 #[.val (.int p1)] [(.int p1)])) _
    refine XS.iconst X0.here hx rfl (hb hby d_method_2_code_27) ?_
    show Steps p.tables e below (s₁.setTop (mkF m 28 #[.val (.int p1)] [(.int (3 : Int32)), (.int p1)])) _
    refine XS.icmpNo X0.here hx rfl (hb hby d_method_2_code_28) rfl (teq hc28).2 ?_
    show Steps p.tables e below (s₁.setTop (mkF m 31 #[.val (.int p1)] [])) _
    refine st1 _ ?_
    show Steps p.tables e below (T1.setTop (mkF m 34 #[.val (.int p1)] [(.ref c3)])) _
    exact X1.areturnOut hx rfl Bd.returns rfl (hb hby d_method_2_code_34) hr
  · show Q_rmP Z p1 c0 c1 c2 c3 c4 c5 c6 c7 c8 c9 h0 n0 _ T1.heap _
    rw [e1]
    exact ⟨by rw [hres], N0, rfl⟩
set_option maxRecDepth 65536 in
set_option maxHeartbeats 40000000 in
theorem rmP_fffft (l : Launch) (Z : State) (a0 : Array Value) (hw : ∀ d ∈ tables_1, d.before a0 Z = true) (ws : List Jvm.Cond) (p1 : Int32) (c0 : Addr) (c1 : Addr) (c2 : Addr) (c3 : Addr) (c4 : Addr) (c5 : Addr) (c6 : Addr) (c7 : Addr) (c8 : Addr) (c9 : Addr) (h0 : Heap) (n0 : Nat) (Z0 : n0 ≤ h0.size) (S_INTEGER_ : Sta Z h0 "com/example/libfiat/libfiat/idl/IdlType$Category" "INTEGER" "Lcom/example/libfiat/libfiat/idl/IdlType$Category;" (.ref c0)) (S_FLOATING_ : Sta Z h0 "com/example/libfiat/libfiat/idl/IdlType$Category" "FLOATING" "Lcom/example/libfiat/libfiat/idl/IdlType$Category;" (.ref c1)) (S_FIXED_ : Sta Z h0 "com/example/libfiat/libfiat/idl/IdlType$Category" "FIXED" "Lcom/example/libfiat/libfiat/idl/IdlType$Category;" (.ref c2)) (S_CHARACTER_ : Sta Z h0 "com/example/libfiat/libfiat/idl/IdlType$Category" "CHARACTER" "Lcom/example/libfiat/libfiat/idl/IdlType$Category;" (.ref c3)) (S_WIDE_CHARACTER_ : Sta Z h0 "com/example/libfiat/libfiat/idl/IdlType$Category" "WIDE_CHARACTER" "Lcom/example/libfiat/libfiat/idl/IdlType$Category;" (.ref c4)) (S_BOOLEAN_ : Sta Z h0 "com/example/libfiat/libfiat/idl/IdlType$Category" "BOOLEAN" "Lcom/example/libfiat/libfiat/idl/IdlType$Category;" (.ref c5)) (S_STRING_ : Sta Z h0 "com/example/libfiat/libfiat/idl/IdlType$Category" "STRING" "Lcom/example/libfiat/libfiat/idl/IdlType$Category;" (.ref c6)) (S_WIDE_STRING_ : Sta Z h0 "com/example/libfiat/libfiat/idl/IdlType$Category" "WIDE_STRING" "Lcom/example/libfiat/libfiat/idl/IdlType$Category;" (.ref c7)) (S_ENUMERATION_ : Sta Z h0 "com/example/libfiat/libfiat/idl/IdlType$Category" "ENUMERATION" "Lcom/example/libfiat/libfiat/idl/IdlType$Category;" (.ref c8)) (S_NONE_ : Sta Z h0 "com/example/libfiat/libfiat/idl/IdlType$Category" "NONE" "Lcom/example/libfiat/libfiat/idl/IdlType$Category;" (.ref c9)) (hc1 : ¬ (p1 = (0 : Int32))) (hc10 : ¬ (p1 = (1 : Int32))) (hc19 : ¬ (p1 = (2 : Int32))) (hc28 : ¬ (p1 = (3 : Int32))) (hc37 : p1 = (4 : Int32)) (hres : (own_pick p1 c0 c1 c2 c3 c4 c5 c6 c7 c8 c9) = c4) :
    MetFree l (⟨"com/example/libfiat/libfiat/idl/CategoryDiscriminatesPinLaw", "pick", "(I)Lcom/example/libfiat/libfiat/idl/IdlType$Category;"⟩ : MethodName) (head1 (Jvm.Cond.code (⟨"com/example/libfiat/libfiat/idl/CategoryDiscriminatesPinLaw", "pick", "(I)Lcom/example/libfiat/libfiat/idl/IdlType$Category;"⟩ : MethodName) method_2_code 1 (some (.object "com/example/libfiat/libfiat/idl/IdlType$Category")) :: ws) ({ frames := 0, cells := 0, slots := 0, locals := 0 } : Room)) (fun a U => a = #[(.int p1)] ∧ Z.Warmed39 U.vm ∧ U.heap = h0) (fun _ _ _ _ _ => True) (fun _ U o U' => ∃ v L, o = .returned v ∧ Q_rmP Z p1 c0 c1 c2 c3 c4 c5 c6 c7 c8 c9 h0 n0 v U'.heap L ∧ FrameEnd U o U' L ({ frames := 0, cells := 0, slots := 0, locals := 0 } : Room).cells ({ frames := 0, cells := 0, slots := 0, locals := 0 } : Room).slots) := by
  refine MetFree.of_bodySF (plainFor_of_name pn_0) hisR ?_
  intro p e s m args below meth c s₁ Bd hml0 hP hK
  obtain ⟨rfl, hZ, hh⟩ := hP
  have hx := Bd.exec
  have hby := Bd.bytes
  have hml : c.maxLocals = 1 := hml0
  have hown : s.vm.findClass "com/example/libfiat/libfiat/idl/CategoryDiscriminatesPinLaw" = some m.cls := findClass_of_methodNamed Bd.named
  have hnm := (name_of_methodNamed Bd.named Bd.method).1
  have X0 : Stand p l e ({ frames := 0, cells := 0, slots := 0, locals := 0 } : Room) s m #[(.int p1)] below meth c s₁ [] 0 0 := Stand.of_body Bd
  have e0 : s₁.heap = h0 := by rw [← hh, Bd.state]; rfl
  have N0 := Fr.nil n0
  have pre0 : ∀ t, Steps p.tables e below (s₁.setTop (mkF m 0 #[.val (.int p1)] [])) t → Steps p.tables e below (s₁.setTop (entryFrame m #[(.int p1)] 1)) t := fun t k => castTop (ef_0 m p1) k
  obtain ⟨T1, X1, e1, st1⟩ := getS2 X0 hx hZ hown (host := "") (Or.inl (hw _ (List.mem_of_getElem? (i := 28) rfl))) Via.refl e0 S_WIDE_CHARACTER_ (g := (mkF m 40 #[.val (.int p1)] [])) rfl (hb hby d_method_2_code_40)
  obtain ⟨fs, hr, hrun, hended, hW, hsame⟩ := X1.leave (v := some (.ref c4)) (fun h => by rw [Bd.returns] at h; cases h)
  refine ⟨_, _, pre0 _ ?_, hrun, hended, _, _, rfl, ?_, ⟨_, rfl⟩, hW, hsame.mono (by decide) (by decide)⟩
  · show Steps p.tables e below (s₁.setTop (mkF m 0 #[.val (.int p1)] [])) _
    refine XS.iloadN X0.here hx rfl (hb hby d_method_2_code_0) rfl ?_
    show Steps p.tables e below (s₁.setTop (mkF m 1 #[.val (.int p1)] [(.int p1)])) _
    refine XS.ifYes X0.here hx rfl (pc0 := 1) (pc' := 8) rfl (hb hby d_method_2_code_1) rfl ((if0 _ _).trans (feq hc1).2) (by decide) (by decide) ?_
    show Steps p.tables e below (s₁.setTop (mkF m 8 #[.val (.int p1)] [])) _
    refine XS.iloadN X0.here hx rfl (hb hby d_method_2_code_8) rfl ?_
    show Steps p.tables e below (s₁.setTop (mkF m 9 #[.val (.int p1)] [(.int p1)])) _
    refine XS.iconst X0.here hx rfl (hb hby d_method_2_code_9) ?_
    show Steps p.tables e below (s₁.setTop (mkF m 10 #[.val (.int p1)] [(.int (1 : Int32)), (.int p1)])) _
    refine XS.icmpYes X0.here hx rfl (pc0 := 10) (pc' := 17) rfl (hb hby d_method_2_code_10) rfl (feq hc10).2 (by decide) (by decide) ?_
    show Steps p.tables e below (s₁.setTop (mkF m 17 #[.val (.int p1)] [])) _
    refine XS.iloadN X0.here hx rfl (hb hby d_method_2_code_17) rfl ?_
    show Steps p.tables e below (s₁.setTop (mkF m 18 #[.val (.int p1)] [(.int p1)])) _
    refine XS.iconst X0.here hx rfl (hb hby d_method_2_code_18) ?_
    show Steps p.tables e below (s₁.setTop (mkF m 19 #[.val (.int p1)] [(.int (2 : Int32)), (.int p1)])) _
    refine XS.icmpYes X0.here hx rfl (pc0 := 19) (pc' := 26) rfl (hb hby d_method_2_code_19) rfl (feq hc19).2 (by decide) (by decide) ?_
    show Steps p.tables e below (s₁.setTop (mkF m 26 #[.val (.int p1)] [])) _
    refine XS.iloadN X0.here hx rfl (hb hby d_method_2_code_26) rfl ?_
    show Steps p.tables e below (s₁.setTop (mkF m 27 #[.val (.int p1)] [(.int p1)])) _
    refine XS.iconst X0.here hx rfl (hb hby d_method_2_code_27) ?_
    show Steps p.tables e below (s₁.setTop (mkF m 28 #[.val (.int p1)] [(.int (3 : Int32)), (.int p1)])) _
    refine XS.icmpYes X0.here hx rfl (pc0 := 28) (pc' := 35) rfl (hb hby d_method_2_code_28) rfl (feq hc28).2 (by decide) (by decide) ?_
    show Steps p.tables e below (s₁.setTop (mkF m 35 #[.val (.int p1)] [])) _
    refine XS.iloadN X0.here hx rfl (hb hby d_method_2_code_35) rfl ?_
    show Steps p.tables e below (s₁.setTop (mkF m 36 #[.val (.int p1)] [(.int p1)])) _
    refine XS.iconst X0.here hx rfl (hb hby d_method_2_code_36) ?_
    show Steps p.tables e below (s₁.setTop (mkF m 37 #[.val (.int p1)] [(.int (4 : Int32)), (.int p1)])) _
    refine XS.icmpNo X0.here hx rfl (hb hby d_method_2_code_37) rfl (teq hc37).2 ?_
    show Steps p.tables e below (s₁.setTop (mkF m 40 #[.val (.int p1)] [])) _
    refine st1 _ ?_
    show Steps p.tables e below (T1.setTop (mkF m 43 #[.val (.int p1)] [(.ref c4)])) _
    exact X1.areturnOut hx rfl Bd.returns rfl (hb hby d_method_2_code_43) hr
  · show Q_rmP Z p1 c0 c1 c2 c3 c4 c5 c6 c7 c8 c9 h0 n0 _ T1.heap _
    rw [e1]
    exact ⟨by rw [hres], N0, rfl⟩
set_option maxRecDepth 65536 in
set_option maxHeartbeats 40000000 in
theorem rmP_ffffft (l : Launch) (Z : State) (a0 : Array Value) (hw : ∀ d ∈ tables_1, d.before a0 Z = true) (ws : List Jvm.Cond) (p1 : Int32) (c0 : Addr) (c1 : Addr) (c2 : Addr) (c3 : Addr) (c4 : Addr) (c5 : Addr) (c6 : Addr) (c7 : Addr) (c8 : Addr) (c9 : Addr) (h0 : Heap) (n0 : Nat) (Z0 : n0 ≤ h0.size) (S_INTEGER_ : Sta Z h0 "com/example/libfiat/libfiat/idl/IdlType$Category" "INTEGER" "Lcom/example/libfiat/libfiat/idl/IdlType$Category;" (.ref c0)) (S_FLOATING_ : Sta Z h0 "com/example/libfiat/libfiat/idl/IdlType$Category" "FLOATING" "Lcom/example/libfiat/libfiat/idl/IdlType$Category;" (.ref c1)) (S_FIXED_ : Sta Z h0 "com/example/libfiat/libfiat/idl/IdlType$Category" "FIXED" "Lcom/example/libfiat/libfiat/idl/IdlType$Category;" (.ref c2)) (S_CHARACTER_ : Sta Z h0 "com/example/libfiat/libfiat/idl/IdlType$Category" "CHARACTER" "Lcom/example/libfiat/libfiat/idl/IdlType$Category;" (.ref c3)) (S_WIDE_CHARACTER_ : Sta Z h0 "com/example/libfiat/libfiat/idl/IdlType$Category" "WIDE_CHARACTER" "Lcom/example/libfiat/libfiat/idl/IdlType$Category;" (.ref c4)) (S_BOOLEAN_ : Sta Z h0 "com/example/libfiat/libfiat/idl/IdlType$Category" "BOOLEAN" "Lcom/example/libfiat/libfiat/idl/IdlType$Category;" (.ref c5)) (S_STRING_ : Sta Z h0 "com/example/libfiat/libfiat/idl/IdlType$Category" "STRING" "Lcom/example/libfiat/libfiat/idl/IdlType$Category;" (.ref c6)) (S_WIDE_STRING_ : Sta Z h0 "com/example/libfiat/libfiat/idl/IdlType$Category" "WIDE_STRING" "Lcom/example/libfiat/libfiat/idl/IdlType$Category;" (.ref c7)) (S_ENUMERATION_ : Sta Z h0 "com/example/libfiat/libfiat/idl/IdlType$Category" "ENUMERATION" "Lcom/example/libfiat/libfiat/idl/IdlType$Category;" (.ref c8)) (S_NONE_ : Sta Z h0 "com/example/libfiat/libfiat/idl/IdlType$Category" "NONE" "Lcom/example/libfiat/libfiat/idl/IdlType$Category;" (.ref c9)) (hc1 : ¬ (p1 = (0 : Int32))) (hc10 : ¬ (p1 = (1 : Int32))) (hc19 : ¬ (p1 = (2 : Int32))) (hc28 : ¬ (p1 = (3 : Int32))) (hc37 : ¬ (p1 = (4 : Int32))) (hc46 : p1 = (5 : Int32)) (hres : (own_pick p1 c0 c1 c2 c3 c4 c5 c6 c7 c8 c9) = c5) :
    MetFree l (⟨"com/example/libfiat/libfiat/idl/CategoryDiscriminatesPinLaw", "pick", "(I)Lcom/example/libfiat/libfiat/idl/IdlType$Category;"⟩ : MethodName) (head1 (Jvm.Cond.code (⟨"com/example/libfiat/libfiat/idl/CategoryDiscriminatesPinLaw", "pick", "(I)Lcom/example/libfiat/libfiat/idl/IdlType$Category;"⟩ : MethodName) method_2_code 1 (some (.object "com/example/libfiat/libfiat/idl/IdlType$Category")) :: ws) ({ frames := 0, cells := 0, slots := 0, locals := 0 } : Room)) (fun a U => a = #[(.int p1)] ∧ Z.Warmed39 U.vm ∧ U.heap = h0) (fun _ _ _ _ _ => True) (fun _ U o U' => ∃ v L, o = .returned v ∧ Q_rmP Z p1 c0 c1 c2 c3 c4 c5 c6 c7 c8 c9 h0 n0 v U'.heap L ∧ FrameEnd U o U' L ({ frames := 0, cells := 0, slots := 0, locals := 0 } : Room).cells ({ frames := 0, cells := 0, slots := 0, locals := 0 } : Room).slots) := by
  refine MetFree.of_bodySF (plainFor_of_name pn_0) hisR ?_
  intro p e s m args below meth c s₁ Bd hml0 hP hK
  obtain ⟨rfl, hZ, hh⟩ := hP
  have hx := Bd.exec
  have hby := Bd.bytes
  have hml : c.maxLocals = 1 := hml0
  have hown : s.vm.findClass "com/example/libfiat/libfiat/idl/CategoryDiscriminatesPinLaw" = some m.cls := findClass_of_methodNamed Bd.named
  have hnm := (name_of_methodNamed Bd.named Bd.method).1
  have X0 : Stand p l e ({ frames := 0, cells := 0, slots := 0, locals := 0 } : Room) s m #[(.int p1)] below meth c s₁ [] 0 0 := Stand.of_body Bd
  have e0 : s₁.heap = h0 := by rw [← hh, Bd.state]; rfl
  have N0 := Fr.nil n0
  have pre0 : ∀ t, Steps p.tables e below (s₁.setTop (mkF m 0 #[.val (.int p1)] [])) t → Steps p.tables e below (s₁.setTop (entryFrame m #[(.int p1)] 1)) t := fun t k => castTop (ef_0 m p1) k
  obtain ⟨T1, X1, e1, st1⟩ := getS2 X0 hx hZ hown (host := "") (Or.inl (hw _ (List.mem_of_getElem? (i := 36) rfl))) Via.refl e0 S_BOOLEAN_ (g := (mkF m 49 #[.val (.int p1)] [])) rfl (hb hby d_method_2_code_49)
  obtain ⟨fs, hr, hrun, hended, hW, hsame⟩ := X1.leave (v := some (.ref c5)) (fun h => by rw [Bd.returns] at h; cases h)
  refine ⟨_, _, pre0 _ ?_, hrun, hended, _, _, rfl, ?_, ⟨_, rfl⟩, hW, hsame.mono (by decide) (by decide)⟩
  · show Steps p.tables e below (s₁.setTop (mkF m 0 #[.val (.int p1)] [])) _
    refine XS.iloadN X0.here hx rfl (hb hby d_method_2_code_0) rfl ?_
    show Steps p.tables e below (s₁.setTop (mkF m 1 #[.val (.int p1)] [(.int p1)])) _
    refine XS.ifYes X0.here hx rfl (pc0 := 1) (pc' := 8) rfl (hb hby d_method_2_code_1) rfl ((if0 _ _).trans (feq hc1).2) (by decide) (by decide) ?_
    show Steps p.tables e below (s₁.setTop (mkF m 8 #[.val (.int p1)] [])) _
    refine XS.iloadN X0.here hx rfl (hb hby d_method_2_code_8) rfl ?_
    show Steps p.tables e below (s₁.setTop (mkF m 9 #[.val (.int p1)] [(.int p1)])) _
    refine XS.iconst X0.here hx rfl (hb hby d_method_2_code_9) ?_
    show Steps p.tables e below (s₁.setTop (mkF m 10 #[.val (.int p1)] [(.int (1 : Int32)), (.int p1)])) _
    refine XS.icmpYes X0.here hx rfl (pc0 := 10) (pc' := 17) rfl (hb hby d_method_2_code_10) rfl (feq hc10).2 (by decide) (by decide) ?_
    show Steps p.tables e below (s₁.setTop (mkF m 17 #[.val (.int p1)] [])) _
    refine XS.iloadN X0.here hx rfl (hb hby d_method_2_code_17) rfl ?_
    show Steps p.tables e below (s₁.setTop (mkF m 18 #[.val (.int p1)] [(.int p1)])) _
    refine XS.iconst X0.here hx rfl (hb hby d_method_2_code_18) ?_
    show Steps p.tables e below (s₁.setTop (mkF m 19 #[.val (.int p1)] [(.int (2 : Int32)), (.int p1)])) _
    refine XS.icmpYes X0.here hx rfl (pc0 := 19) (pc' := 26) rfl (hb hby d_method_2_code_19) rfl (feq hc19).2 (by decide) (by decide) ?_
    show Steps p.tables e below (s₁.setTop (mkF m 26 #[.val (.int p1)] [])) _
    refine XS.iloadN X0.here hx rfl (hb hby d_method_2_code_26) rfl ?_
    show Steps p.tables e below (s₁.setTop (mkF m 27 #[.val (.int p1)] [(.int p1)])) _
    refine XS.iconst X0.here hx rfl (hb hby d_method_2_code_27) ?_
    show Steps p.tables e below (s₁.setTop (mkF m 28 #[.val (.int p1)] [(.int (3 : Int32)), (.int p1)])) _
    refine XS.icmpYes X0.here hx rfl (pc0 := 28) (pc' := 35) rfl (hb hby d_method_2_code_28) rfl (feq hc28).2 (by decide) (by decide) ?_
    show Steps p.tables e below (s₁.setTop (mkF m 35 #[.val (.int p1)] [])) _
    refine XS.iloadN X0.here hx rfl (hb hby d_method_2_code_35) rfl ?_
    show Steps p.tables e below (s₁.setTop (mkF m 36 #[.val (.int p1)] [(.int p1)])) _
    refine XS.iconst X0.here hx rfl (hb hby d_method_2_code_36) ?_
    show Steps p.tables e below (s₁.setTop (mkF m 37 #[.val (.int p1)] [(.int (4 : Int32)), (.int p1)])) _
    refine XS.icmpYes X0.here hx rfl (pc0 := 37) (pc' := 44) rfl (hb hby d_method_2_code_37) rfl (feq hc37).2 (by decide) (by decide) ?_
    show Steps p.tables e below (s₁.setTop (mkF m 44 #[.val (.int p1)] [])) _
    refine XS.iloadN X0.here hx rfl (hb hby d_method_2_code_44) rfl ?_
    show Steps p.tables e below (s₁.setTop (mkF m 45 #[.val (.int p1)] [(.int p1)])) _
    refine XS.iconst X0.here hx rfl (hb hby d_method_2_code_45) ?_
    show Steps p.tables e below (s₁.setTop (mkF m 46 #[.val (.int p1)] [(.int (5 : Int32)), (.int p1)])) _
    refine XS.icmpNo X0.here hx rfl (hb hby d_method_2_code_46) rfl (teq hc46).2 ?_
    show Steps p.tables e below (s₁.setTop (mkF m 49 #[.val (.int p1)] [])) _
    refine st1 _ ?_
    show Steps p.tables e below (T1.setTop (mkF m 52 #[.val (.int p1)] [(.ref c5)])) _
    exact X1.areturnOut hx rfl Bd.returns rfl (hb hby d_method_2_code_52) hr
  · show Q_rmP Z p1 c0 c1 c2 c3 c4 c5 c6 c7 c8 c9 h0 n0 _ T1.heap _
    rw [e1]
    exact ⟨by rw [hres], N0, rfl⟩
set_option maxRecDepth 65536 in
set_option maxHeartbeats 40000000 in
theorem rmP_fffffft (l : Launch) (Z : State) (a0 : Array Value) (hw : ∀ d ∈ tables_1, d.before a0 Z = true) (ws : List Jvm.Cond) (p1 : Int32) (c0 : Addr) (c1 : Addr) (c2 : Addr) (c3 : Addr) (c4 : Addr) (c5 : Addr) (c6 : Addr) (c7 : Addr) (c8 : Addr) (c9 : Addr) (h0 : Heap) (n0 : Nat) (Z0 : n0 ≤ h0.size) (S_INTEGER_ : Sta Z h0 "com/example/libfiat/libfiat/idl/IdlType$Category" "INTEGER" "Lcom/example/libfiat/libfiat/idl/IdlType$Category;" (.ref c0)) (S_FLOATING_ : Sta Z h0 "com/example/libfiat/libfiat/idl/IdlType$Category" "FLOATING" "Lcom/example/libfiat/libfiat/idl/IdlType$Category;" (.ref c1)) (S_FIXED_ : Sta Z h0 "com/example/libfiat/libfiat/idl/IdlType$Category" "FIXED" "Lcom/example/libfiat/libfiat/idl/IdlType$Category;" (.ref c2)) (S_CHARACTER_ : Sta Z h0 "com/example/libfiat/libfiat/idl/IdlType$Category" "CHARACTER" "Lcom/example/libfiat/libfiat/idl/IdlType$Category;" (.ref c3)) (S_WIDE_CHARACTER_ : Sta Z h0 "com/example/libfiat/libfiat/idl/IdlType$Category" "WIDE_CHARACTER" "Lcom/example/libfiat/libfiat/idl/IdlType$Category;" (.ref c4)) (S_BOOLEAN_ : Sta Z h0 "com/example/libfiat/libfiat/idl/IdlType$Category" "BOOLEAN" "Lcom/example/libfiat/libfiat/idl/IdlType$Category;" (.ref c5)) (S_STRING_ : Sta Z h0 "com/example/libfiat/libfiat/idl/IdlType$Category" "STRING" "Lcom/example/libfiat/libfiat/idl/IdlType$Category;" (.ref c6)) (S_WIDE_STRING_ : Sta Z h0 "com/example/libfiat/libfiat/idl/IdlType$Category" "WIDE_STRING" "Lcom/example/libfiat/libfiat/idl/IdlType$Category;" (.ref c7)) (S_ENUMERATION_ : Sta Z h0 "com/example/libfiat/libfiat/idl/IdlType$Category" "ENUMERATION" "Lcom/example/libfiat/libfiat/idl/IdlType$Category;" (.ref c8)) (S_NONE_ : Sta Z h0 "com/example/libfiat/libfiat/idl/IdlType$Category" "NONE" "Lcom/example/libfiat/libfiat/idl/IdlType$Category;" (.ref c9)) (hc1 : ¬ (p1 = (0 : Int32))) (hc10 : ¬ (p1 = (1 : Int32))) (hc19 : ¬ (p1 = (2 : Int32))) (hc28 : ¬ (p1 = (3 : Int32))) (hc37 : ¬ (p1 = (4 : Int32))) (hc46 : ¬ (p1 = (5 : Int32))) (hc56 : p1 = (6 : Int32)) (hres : (own_pick p1 c0 c1 c2 c3 c4 c5 c6 c7 c8 c9) = c6) :
    MetFree l (⟨"com/example/libfiat/libfiat/idl/CategoryDiscriminatesPinLaw", "pick", "(I)Lcom/example/libfiat/libfiat/idl/IdlType$Category;"⟩ : MethodName) (head1 (Jvm.Cond.code (⟨"com/example/libfiat/libfiat/idl/CategoryDiscriminatesPinLaw", "pick", "(I)Lcom/example/libfiat/libfiat/idl/IdlType$Category;"⟩ : MethodName) method_2_code 1 (some (.object "com/example/libfiat/libfiat/idl/IdlType$Category")) :: ws) ({ frames := 0, cells := 0, slots := 0, locals := 0 } : Room)) (fun a U => a = #[(.int p1)] ∧ Z.Warmed39 U.vm ∧ U.heap = h0) (fun _ _ _ _ _ => True) (fun _ U o U' => ∃ v L, o = .returned v ∧ Q_rmP Z p1 c0 c1 c2 c3 c4 c5 c6 c7 c8 c9 h0 n0 v U'.heap L ∧ FrameEnd U o U' L ({ frames := 0, cells := 0, slots := 0, locals := 0 } : Room).cells ({ frames := 0, cells := 0, slots := 0, locals := 0 } : Room).slots) := by
  refine MetFree.of_bodySF (plainFor_of_name pn_0) hisR ?_
  intro p e s m args below meth c s₁ Bd hml0 hP hK
  obtain ⟨rfl, hZ, hh⟩ := hP
  have hx := Bd.exec
  have hby := Bd.bytes
  have hml : c.maxLocals = 1 := hml0
  have hown : s.vm.findClass "com/example/libfiat/libfiat/idl/CategoryDiscriminatesPinLaw" = some m.cls := findClass_of_methodNamed Bd.named
  have hnm := (name_of_methodNamed Bd.named Bd.method).1
  have X0 : Stand p l e ({ frames := 0, cells := 0, slots := 0, locals := 0 } : Room) s m #[(.int p1)] below meth c s₁ [] 0 0 := Stand.of_body Bd
  have e0 : s₁.heap = h0 := by rw [← hh, Bd.state]; rfl
  have N0 := Fr.nil n0
  have pre0 : ∀ t, Steps p.tables e below (s₁.setTop (mkF m 0 #[.val (.int p1)] [])) t → Steps p.tables e below (s₁.setTop (entryFrame m #[(.int p1)] 1)) t := fun t k => castTop (ef_0 m p1) k
  obtain ⟨T1, X1, e1, st1⟩ := getS2 X0 hx hZ hown (host := "") (Or.inl (hw _ (List.mem_of_getElem? (i := 37) rfl))) Via.refl e0 S_STRING_ (g := (mkF m 59 #[.val (.int p1)] [])) rfl (hb hby d_method_2_code_59)
  obtain ⟨fs, hr, hrun, hended, hW, hsame⟩ := X1.leave (v := some (.ref c6)) (fun h => by rw [Bd.returns] at h; cases h)
  refine ⟨_, _, pre0 _ ?_, hrun, hended, _, _, rfl, ?_, ⟨_, rfl⟩, hW, hsame.mono (by decide) (by decide)⟩
  · show Steps p.tables e below (s₁.setTop (mkF m 0 #[.val (.int p1)] [])) _
    refine XS.iloadN X0.here hx rfl (hb hby d_method_2_code_0) rfl ?_
    show Steps p.tables e below (s₁.setTop (mkF m 1 #[.val (.int p1)] [(.int p1)])) _
    refine XS.ifYes X0.here hx rfl (pc0 := 1) (pc' := 8) rfl (hb hby d_method_2_code_1) rfl ((if0 _ _).trans (feq hc1).2) (by decide) (by decide) ?_
    show Steps p.tables e below (s₁.setTop (mkF m 8 #[.val (.int p1)] [])) _
    refine XS.iloadN X0.here hx rfl (hb hby d_method_2_code_8) rfl ?_
    show Steps p.tables e below (s₁.setTop (mkF m 9 #[.val (.int p1)] [(.int p1)])) _
    refine XS.iconst X0.here hx rfl (hb hby d_method_2_code_9) ?_
    show Steps p.tables e below (s₁.setTop (mkF m 10 #[.val (.int p1)] [(.int (1 : Int32)), (.int p1)])) _
    refine XS.icmpYes X0.here hx rfl (pc0 := 10) (pc' := 17) rfl (hb hby d_method_2_code_10) rfl (feq hc10).2 (by decide) (by decide) ?_
    show Steps p.tables e below (s₁.setTop (mkF m 17 #[.val (.int p1)] [])) _
    refine XS.iloadN X0.here hx rfl (hb hby d_method_2_code_17) rfl ?_
    show Steps p.tables e below (s₁.setTop (mkF m 18 #[.val (.int p1)] [(.int p1)])) _
    refine XS.iconst X0.here hx rfl (hb hby d_method_2_code_18) ?_
    show Steps p.tables e below (s₁.setTop (mkF m 19 #[.val (.int p1)] [(.int (2 : Int32)), (.int p1)])) _
    refine XS.icmpYes X0.here hx rfl (pc0 := 19) (pc' := 26) rfl (hb hby d_method_2_code_19) rfl (feq hc19).2 (by decide) (by decide) ?_
    show Steps p.tables e below (s₁.setTop (mkF m 26 #[.val (.int p1)] [])) _
    refine XS.iloadN X0.here hx rfl (hb hby d_method_2_code_26) rfl ?_
    show Steps p.tables e below (s₁.setTop (mkF m 27 #[.val (.int p1)] [(.int p1)])) _
    refine XS.iconst X0.here hx rfl (hb hby d_method_2_code_27) ?_
    show Steps p.tables e below (s₁.setTop (mkF m 28 #[.val (.int p1)] [(.int (3 : Int32)), (.int p1)])) _
    refine XS.icmpYes X0.here hx rfl (pc0 := 28) (pc' := 35) rfl (hb hby d_method_2_code_28) rfl (feq hc28).2 (by decide) (by decide) ?_
    show Steps p.tables e below (s₁.setTop (mkF m 35 #[.val (.int p1)] [])) _
    refine XS.iloadN X0.here hx rfl (hb hby d_method_2_code_35) rfl ?_
    show Steps p.tables e below (s₁.setTop (mkF m 36 #[.val (.int p1)] [(.int p1)])) _
    refine XS.iconst X0.here hx rfl (hb hby d_method_2_code_36) ?_
    show Steps p.tables e below (s₁.setTop (mkF m 37 #[.val (.int p1)] [(.int (4 : Int32)), (.int p1)])) _
    refine XS.icmpYes X0.here hx rfl (pc0 := 37) (pc' := 44) rfl (hb hby d_method_2_code_37) rfl (feq hc37).2 (by decide) (by decide) ?_
    show Steps p.tables e below (s₁.setTop (mkF m 44 #[.val (.int p1)] [])) _
    refine XS.iloadN X0.here hx rfl (hb hby d_method_2_code_44) rfl ?_
    show Steps p.tables e below (s₁.setTop (mkF m 45 #[.val (.int p1)] [(.int p1)])) _
    refine XS.iconst X0.here hx rfl (hb hby d_method_2_code_45) ?_
    show Steps p.tables e below (s₁.setTop (mkF m 46 #[.val (.int p1)] [(.int (5 : Int32)), (.int p1)])) _
    refine XS.icmpYes X0.here hx rfl (pc0 := 46) (pc' := 53) rfl (hb hby d_method_2_code_46) rfl (feq hc46).2 (by decide) (by decide) ?_
    show Steps p.tables e below (s₁.setTop (mkF m 53 #[.val (.int p1)] [])) _
    refine XS.iloadN X0.here hx rfl (hb hby d_method_2_code_53) rfl ?_
    show Steps p.tables e below (s₁.setTop (mkF m 54 #[.val (.int p1)] [(.int p1)])) _
    refine XS.bipush X0.here hx rfl (hb hby d_method_2_code_54) ?_
    show Steps p.tables e below (s₁.setTop (mkF m 56 #[.val (.int p1)] [(.int (6 : Int32)), (.int p1)])) _
    refine XS.icmpNo X0.here hx rfl (hb hby d_method_2_code_56) rfl (teq hc56).2 ?_
    show Steps p.tables e below (s₁.setTop (mkF m 59 #[.val (.int p1)] [])) _
    refine st1 _ ?_
    show Steps p.tables e below (T1.setTop (mkF m 62 #[.val (.int p1)] [(.ref c6)])) _
    exact X1.areturnOut hx rfl Bd.returns rfl (hb hby d_method_2_code_62) hr
  · show Q_rmP Z p1 c0 c1 c2 c3 c4 c5 c6 c7 c8 c9 h0 n0 _ T1.heap _
    rw [e1]
    exact ⟨by rw [hres], N0, rfl⟩
set_option maxRecDepth 65536 in
set_option maxHeartbeats 40000000 in
theorem rmP_ffffffft (l : Launch) (Z : State) (a0 : Array Value) (hw : ∀ d ∈ tables_1, d.before a0 Z = true) (ws : List Jvm.Cond) (p1 : Int32) (c0 : Addr) (c1 : Addr) (c2 : Addr) (c3 : Addr) (c4 : Addr) (c5 : Addr) (c6 : Addr) (c7 : Addr) (c8 : Addr) (c9 : Addr) (h0 : Heap) (n0 : Nat) (Z0 : n0 ≤ h0.size) (S_INTEGER_ : Sta Z h0 "com/example/libfiat/libfiat/idl/IdlType$Category" "INTEGER" "Lcom/example/libfiat/libfiat/idl/IdlType$Category;" (.ref c0)) (S_FLOATING_ : Sta Z h0 "com/example/libfiat/libfiat/idl/IdlType$Category" "FLOATING" "Lcom/example/libfiat/libfiat/idl/IdlType$Category;" (.ref c1)) (S_FIXED_ : Sta Z h0 "com/example/libfiat/libfiat/idl/IdlType$Category" "FIXED" "Lcom/example/libfiat/libfiat/idl/IdlType$Category;" (.ref c2)) (S_CHARACTER_ : Sta Z h0 "com/example/libfiat/libfiat/idl/IdlType$Category" "CHARACTER" "Lcom/example/libfiat/libfiat/idl/IdlType$Category;" (.ref c3)) (S_WIDE_CHARACTER_ : Sta Z h0 "com/example/libfiat/libfiat/idl/IdlType$Category" "WIDE_CHARACTER" "Lcom/example/libfiat/libfiat/idl/IdlType$Category;" (.ref c4)) (S_BOOLEAN_ : Sta Z h0 "com/example/libfiat/libfiat/idl/IdlType$Category" "BOOLEAN" "Lcom/example/libfiat/libfiat/idl/IdlType$Category;" (.ref c5)) (S_STRING_ : Sta Z h0 "com/example/libfiat/libfiat/idl/IdlType$Category" "STRING" "Lcom/example/libfiat/libfiat/idl/IdlType$Category;" (.ref c6)) (S_WIDE_STRING_ : Sta Z h0 "com/example/libfiat/libfiat/idl/IdlType$Category" "WIDE_STRING" "Lcom/example/libfiat/libfiat/idl/IdlType$Category;" (.ref c7)) (S_ENUMERATION_ : Sta Z h0 "com/example/libfiat/libfiat/idl/IdlType$Category" "ENUMERATION" "Lcom/example/libfiat/libfiat/idl/IdlType$Category;" (.ref c8)) (S_NONE_ : Sta Z h0 "com/example/libfiat/libfiat/idl/IdlType$Category" "NONE" "Lcom/example/libfiat/libfiat/idl/IdlType$Category;" (.ref c9)) (hc1 : ¬ (p1 = (0 : Int32))) (hc10 : ¬ (p1 = (1 : Int32))) (hc19 : ¬ (p1 = (2 : Int32))) (hc28 : ¬ (p1 = (3 : Int32))) (hc37 : ¬ (p1 = (4 : Int32))) (hc46 : ¬ (p1 = (5 : Int32))) (hc56 : ¬ (p1 = (6 : Int32))) (hc66 : p1 = (7 : Int32)) (hres : (own_pick p1 c0 c1 c2 c3 c4 c5 c6 c7 c8 c9) = c7) :
    MetFree l (⟨"com/example/libfiat/libfiat/idl/CategoryDiscriminatesPinLaw", "pick", "(I)Lcom/example/libfiat/libfiat/idl/IdlType$Category;"⟩ : MethodName) (head1 (Jvm.Cond.code (⟨"com/example/libfiat/libfiat/idl/CategoryDiscriminatesPinLaw", "pick", "(I)Lcom/example/libfiat/libfiat/idl/IdlType$Category;"⟩ : MethodName) method_2_code 1 (some (.object "com/example/libfiat/libfiat/idl/IdlType$Category")) :: ws) ({ frames := 0, cells := 0, slots := 0, locals := 0 } : Room)) (fun a U => a = #[(.int p1)] ∧ Z.Warmed39 U.vm ∧ U.heap = h0) (fun _ _ _ _ _ => True) (fun _ U o U' => ∃ v L, o = .returned v ∧ Q_rmP Z p1 c0 c1 c2 c3 c4 c5 c6 c7 c8 c9 h0 n0 v U'.heap L ∧ FrameEnd U o U' L ({ frames := 0, cells := 0, slots := 0, locals := 0 } : Room).cells ({ frames := 0, cells := 0, slots := 0, locals := 0 } : Room).slots) := by
  refine MetFree.of_bodySF (plainFor_of_name pn_0) hisR ?_
  intro p e s m args below meth c s₁ Bd hml0 hP hK
  obtain ⟨rfl, hZ, hh⟩ := hP
  have hx := Bd.exec
  have hby := Bd.bytes
  have hml : c.maxLocals = 1 := hml0
  have hown : s.vm.findClass "com/example/libfiat/libfiat/idl/CategoryDiscriminatesPinLaw" = some m.cls := findClass_of_methodNamed Bd.named
  have hnm := (name_of_methodNamed Bd.named Bd.method).1
  have X0 : Stand p l e ({ frames := 0, cells := 0, slots := 0, locals := 0 } : Room) s m #[(.int p1)] below meth c s₁ [] 0 0 := Stand.of_body Bd
  have e0 : s₁.heap = h0 := by rw [← hh, Bd.state]; rfl
  have N0 := Fr.nil n0
  have pre0 : ∀ t, Steps p.tables e below (s₁.setTop (mkF m 0 #[.val (.int p1)] [])) t → Steps p.tables e below (s₁.setTop (entryFrame m #[(.int p1)] 1)) t := fun t k => castTop (ef_0 m p1) k
  obtain ⟨T1, X1, e1, st1⟩ := getS2 X0 hx hZ hown (host := "") (Or.inl (hw _ (List.mem_of_getElem? (i := 29) rfl))) Via.refl e0 S_WIDE_STRING_ (g := (mkF m 69 #[.val (.int p1)] [])) rfl (hb hby d_method_2_code_69)
  obtain ⟨fs, hr, hrun, hended, hW, hsame⟩ := X1.leave (v := some (.ref c7)) (fun h => by rw [Bd.returns] at h; cases h)
  refine ⟨_, _, pre0 _ ?_, hrun, hended, _, _, rfl, ?_, ⟨_, rfl⟩, hW, hsame.mono (by decide) (by decide)⟩
  · show Steps p.tables e below (s₁.setTop (mkF m 0 #[.val (.int p1)] [])) _
    refine XS.iloadN X0.here hx rfl (hb hby d_method_2_code_0) rfl ?_
    show Steps p.tables e below (s₁.setTop (mkF m 1 #[.val (.int p1)] [(.int p1)])) _
    refine XS.ifYes X0.here hx rfl (pc0 := 1) (pc' := 8) rfl (hb hby d_method_2_code_1) rfl ((if0 _ _).trans (feq hc1).2) (by decide) (by decide) ?_
    show Steps p.tables e below (s₁.setTop (mkF m 8 #[.val (.int p1)] [])) _
    refine XS.iloadN X0.here hx rfl (hb hby d_method_2_code_8) rfl ?_
    show Steps p.tables e below (s₁.setTop (mkF m 9 #[.val (.int p1)] [(.int p1)])) _
    refine XS.iconst X0.here hx rfl (hb hby d_method_2_code_9) ?_
    show Steps p.tables e below (s₁.setTop (mkF m 10 #[.val (.int p1)] [(.int (1 : Int32)), (.int p1)])) _
    refine XS.icmpYes X0.here hx rfl (pc0 := 10) (pc' := 17) rfl (hb hby d_method_2_code_10) rfl (feq hc10).2 (by decide) (by decide) ?_
    show Steps p.tables e below (s₁.setTop (mkF m 17 #[.val (.int p1)] [])) _
    refine XS.iloadN X0.here hx rfl (hb hby d_method_2_code_17) rfl ?_
    show Steps p.tables e below (s₁.setTop (mkF m 18 #[.val (.int p1)] [(.int p1)])) _
    refine XS.iconst X0.here hx rfl (hb hby d_method_2_code_18) ?_
    show Steps p.tables e below (s₁.setTop (mkF m 19 #[.val (.int p1)] [(.int (2 : Int32)), (.int p1)])) _
    refine XS.icmpYes X0.here hx rfl (pc0 := 19) (pc' := 26) rfl (hb hby d_method_2_code_19) rfl (feq hc19).2 (by decide) (by decide) ?_
    show Steps p.tables e below (s₁.setTop (mkF m 26 #[.val (.int p1)] [])) _
    refine XS.iloadN X0.here hx rfl (hb hby d_method_2_code_26) rfl ?_
    show Steps p.tables e below (s₁.setTop (mkF m 27 #[.val (.int p1)] [(.int p1)])) _
    refine XS.iconst X0.here hx rfl (hb hby d_method_2_code_27) ?_
    show Steps p.tables e below (s₁.setTop (mkF m 28 #[.val (.int p1)] [(.int (3 : Int32)), (.int p1)])) _
    refine XS.icmpYes X0.here hx rfl (pc0 := 28) (pc' := 35) rfl (hb hby d_method_2_code_28) rfl (feq hc28).2 (by decide) (by decide) ?_
    show Steps p.tables e below (s₁.setTop (mkF m 35 #[.val (.int p1)] [])) _
    refine XS.iloadN X0.here hx rfl (hb hby d_method_2_code_35) rfl ?_
    show Steps p.tables e below (s₁.setTop (mkF m 36 #[.val (.int p1)] [(.int p1)])) _
    refine XS.iconst X0.here hx rfl (hb hby d_method_2_code_36) ?_
    show Steps p.tables e below (s₁.setTop (mkF m 37 #[.val (.int p1)] [(.int (4 : Int32)), (.int p1)])) _
    refine XS.icmpYes X0.here hx rfl (pc0 := 37) (pc' := 44) rfl (hb hby d_method_2_code_37) rfl (feq hc37).2 (by decide) (by decide) ?_
    show Steps p.tables e below (s₁.setTop (mkF m 44 #[.val (.int p1)] [])) _
    refine XS.iloadN X0.here hx rfl (hb hby d_method_2_code_44) rfl ?_
    show Steps p.tables e below (s₁.setTop (mkF m 45 #[.val (.int p1)] [(.int p1)])) _
    refine XS.iconst X0.here hx rfl (hb hby d_method_2_code_45) ?_
    show Steps p.tables e below (s₁.setTop (mkF m 46 #[.val (.int p1)] [(.int (5 : Int32)), (.int p1)])) _
    refine XS.icmpYes X0.here hx rfl (pc0 := 46) (pc' := 53) rfl (hb hby d_method_2_code_46) rfl (feq hc46).2 (by decide) (by decide) ?_
    show Steps p.tables e below (s₁.setTop (mkF m 53 #[.val (.int p1)] [])) _
    refine XS.iloadN X0.here hx rfl (hb hby d_method_2_code_53) rfl ?_
    show Steps p.tables e below (s₁.setTop (mkF m 54 #[.val (.int p1)] [(.int p1)])) _
    refine XS.bipush X0.here hx rfl (hb hby d_method_2_code_54) ?_
    show Steps p.tables e below (s₁.setTop (mkF m 56 #[.val (.int p1)] [(.int (6 : Int32)), (.int p1)])) _
    refine XS.icmpYes X0.here hx rfl (pc0 := 56) (pc' := 63) rfl (hb hby d_method_2_code_56) rfl (feq hc56).2 (by decide) (by decide) ?_
    show Steps p.tables e below (s₁.setTop (mkF m 63 #[.val (.int p1)] [])) _
    refine XS.iloadN X0.here hx rfl (hb hby d_method_2_code_63) rfl ?_
    show Steps p.tables e below (s₁.setTop (mkF m 64 #[.val (.int p1)] [(.int p1)])) _
    refine XS.bipush X0.here hx rfl (hb hby d_method_2_code_64) ?_
    show Steps p.tables e below (s₁.setTop (mkF m 66 #[.val (.int p1)] [(.int (7 : Int32)), (.int p1)])) _
    refine XS.icmpNo X0.here hx rfl (hb hby d_method_2_code_66) rfl (teq hc66).2 ?_
    show Steps p.tables e below (s₁.setTop (mkF m 69 #[.val (.int p1)] [])) _
    refine st1 _ ?_
    show Steps p.tables e below (T1.setTop (mkF m 72 #[.val (.int p1)] [(.ref c7)])) _
    exact X1.areturnOut hx rfl Bd.returns rfl (hb hby d_method_2_code_72) hr
  · show Q_rmP Z p1 c0 c1 c2 c3 c4 c5 c6 c7 c8 c9 h0 n0 _ T1.heap _
    rw [e1]
    exact ⟨by rw [hres], N0, rfl⟩
set_option maxRecDepth 65536 in
set_option maxHeartbeats 40000000 in
theorem rmP_fffffffft (l : Launch) (Z : State) (a0 : Array Value) (hw : ∀ d ∈ tables_1, d.before a0 Z = true) (ws : List Jvm.Cond) (p1 : Int32) (c0 : Addr) (c1 : Addr) (c2 : Addr) (c3 : Addr) (c4 : Addr) (c5 : Addr) (c6 : Addr) (c7 : Addr) (c8 : Addr) (c9 : Addr) (h0 : Heap) (n0 : Nat) (Z0 : n0 ≤ h0.size) (S_INTEGER_ : Sta Z h0 "com/example/libfiat/libfiat/idl/IdlType$Category" "INTEGER" "Lcom/example/libfiat/libfiat/idl/IdlType$Category;" (.ref c0)) (S_FLOATING_ : Sta Z h0 "com/example/libfiat/libfiat/idl/IdlType$Category" "FLOATING" "Lcom/example/libfiat/libfiat/idl/IdlType$Category;" (.ref c1)) (S_FIXED_ : Sta Z h0 "com/example/libfiat/libfiat/idl/IdlType$Category" "FIXED" "Lcom/example/libfiat/libfiat/idl/IdlType$Category;" (.ref c2)) (S_CHARACTER_ : Sta Z h0 "com/example/libfiat/libfiat/idl/IdlType$Category" "CHARACTER" "Lcom/example/libfiat/libfiat/idl/IdlType$Category;" (.ref c3)) (S_WIDE_CHARACTER_ : Sta Z h0 "com/example/libfiat/libfiat/idl/IdlType$Category" "WIDE_CHARACTER" "Lcom/example/libfiat/libfiat/idl/IdlType$Category;" (.ref c4)) (S_BOOLEAN_ : Sta Z h0 "com/example/libfiat/libfiat/idl/IdlType$Category" "BOOLEAN" "Lcom/example/libfiat/libfiat/idl/IdlType$Category;" (.ref c5)) (S_STRING_ : Sta Z h0 "com/example/libfiat/libfiat/idl/IdlType$Category" "STRING" "Lcom/example/libfiat/libfiat/idl/IdlType$Category;" (.ref c6)) (S_WIDE_STRING_ : Sta Z h0 "com/example/libfiat/libfiat/idl/IdlType$Category" "WIDE_STRING" "Lcom/example/libfiat/libfiat/idl/IdlType$Category;" (.ref c7)) (S_ENUMERATION_ : Sta Z h0 "com/example/libfiat/libfiat/idl/IdlType$Category" "ENUMERATION" "Lcom/example/libfiat/libfiat/idl/IdlType$Category;" (.ref c8)) (S_NONE_ : Sta Z h0 "com/example/libfiat/libfiat/idl/IdlType$Category" "NONE" "Lcom/example/libfiat/libfiat/idl/IdlType$Category;" (.ref c9)) (hc1 : ¬ (p1 = (0 : Int32))) (hc10 : ¬ (p1 = (1 : Int32))) (hc19 : ¬ (p1 = (2 : Int32))) (hc28 : ¬ (p1 = (3 : Int32))) (hc37 : ¬ (p1 = (4 : Int32))) (hc46 : ¬ (p1 = (5 : Int32))) (hc56 : ¬ (p1 = (6 : Int32))) (hc66 : ¬ (p1 = (7 : Int32))) (hc76 : p1 = (8 : Int32)) (hres : (own_pick p1 c0 c1 c2 c3 c4 c5 c6 c7 c8 c9) = c8) :
    MetFree l (⟨"com/example/libfiat/libfiat/idl/CategoryDiscriminatesPinLaw", "pick", "(I)Lcom/example/libfiat/libfiat/idl/IdlType$Category;"⟩ : MethodName) (head1 (Jvm.Cond.code (⟨"com/example/libfiat/libfiat/idl/CategoryDiscriminatesPinLaw", "pick", "(I)Lcom/example/libfiat/libfiat/idl/IdlType$Category;"⟩ : MethodName) method_2_code 1 (some (.object "com/example/libfiat/libfiat/idl/IdlType$Category")) :: ws) ({ frames := 0, cells := 0, slots := 0, locals := 0 } : Room)) (fun a U => a = #[(.int p1)] ∧ Z.Warmed39 U.vm ∧ U.heap = h0) (fun _ _ _ _ _ => True) (fun _ U o U' => ∃ v L, o = .returned v ∧ Q_rmP Z p1 c0 c1 c2 c3 c4 c5 c6 c7 c8 c9 h0 n0 v U'.heap L ∧ FrameEnd U o U' L ({ frames := 0, cells := 0, slots := 0, locals := 0 } : Room).cells ({ frames := 0, cells := 0, slots := 0, locals := 0 } : Room).slots) := by
  refine MetFree.of_bodySF (plainFor_of_name pn_0) hisR ?_
  intro p e s m args below meth c s₁ Bd hml0 hP hK
  obtain ⟨rfl, hZ, hh⟩ := hP
  have hx := Bd.exec
  have hby := Bd.bytes
  have hml : c.maxLocals = 1 := hml0
  have hown : s.vm.findClass "com/example/libfiat/libfiat/idl/CategoryDiscriminatesPinLaw" = some m.cls := findClass_of_methodNamed Bd.named
  have hnm := (name_of_methodNamed Bd.named Bd.method).1
  have X0 : Stand p l e ({ frames := 0, cells := 0, slots := 0, locals := 0 } : Room) s m #[(.int p1)] below meth c s₁ [] 0 0 := Stand.of_body Bd
  have e0 : s₁.heap = h0 := by rw [← hh, Bd.state]; rfl
  have N0 := Fr.nil n0
  have pre0 : ∀ t, Steps p.tables e below (s₁.setTop (mkF m 0 #[.val (.int p1)] [])) t → Steps p.tables e below (s₁.setTop (entryFrame m #[(.int p1)] 1)) t := fun t k => castTop (ef_0 m p1) k
  obtain ⟨T1, X1, e1, st1⟩ := getS2 X0 hx hZ hown (host := "") (Or.inl (hw _ (List.mem_of_getElem? (i := 33) rfl))) Via.refl e0 S_ENUMERATION_ (g := (mkF m 79 #[.val (.int p1)] [])) rfl (hb hby d_method_2_code_79)
  obtain ⟨fs, hr, hrun, hended, hW, hsame⟩ := X1.leave (v := some (.ref c8)) (fun h => by rw [Bd.returns] at h; cases h)
  refine ⟨_, _, pre0 _ ?_, hrun, hended, _, _, rfl, ?_, ⟨_, rfl⟩, hW, hsame.mono (by decide) (by decide)⟩
  · show Steps p.tables e below (s₁.setTop (mkF m 0 #[.val (.int p1)] [])) _
    refine XS.iloadN X0.here hx rfl (hb hby d_method_2_code_0) rfl ?_
    show Steps p.tables e below (s₁.setTop (mkF m 1 #[.val (.int p1)] [(.int p1)])) _
    refine XS.ifYes X0.here hx rfl (pc0 := 1) (pc' := 8) rfl (hb hby d_method_2_code_1) rfl ((if0 _ _).trans (feq hc1).2) (by decide) (by decide) ?_
    show Steps p.tables e below (s₁.setTop (mkF m 8 #[.val (.int p1)] [])) _
    refine XS.iloadN X0.here hx rfl (hb hby d_method_2_code_8) rfl ?_
    show Steps p.tables e below (s₁.setTop (mkF m 9 #[.val (.int p1)] [(.int p1)])) _
    refine XS.iconst X0.here hx rfl (hb hby d_method_2_code_9) ?_
    show Steps p.tables e below (s₁.setTop (mkF m 10 #[.val (.int p1)] [(.int (1 : Int32)), (.int p1)])) _
    refine XS.icmpYes X0.here hx rfl (pc0 := 10) (pc' := 17) rfl (hb hby d_method_2_code_10) rfl (feq hc10).2 (by decide) (by decide) ?_
    show Steps p.tables e below (s₁.setTop (mkF m 17 #[.val (.int p1)] [])) _
    refine XS.iloadN X0.here hx rfl (hb hby d_method_2_code_17) rfl ?_
    show Steps p.tables e below (s₁.setTop (mkF m 18 #[.val (.int p1)] [(.int p1)])) _
    refine XS.iconst X0.here hx rfl (hb hby d_method_2_code_18) ?_
    show Steps p.tables e below (s₁.setTop (mkF m 19 #[.val (.int p1)] [(.int (2 : Int32)), (.int p1)])) _
    refine XS.icmpYes X0.here hx rfl (pc0 := 19) (pc' := 26) rfl (hb hby d_method_2_code_19) rfl (feq hc19).2 (by decide) (by decide) ?_
    show Steps p.tables e below (s₁.setTop (mkF m 26 #[.val (.int p1)] [])) _
    refine XS.iloadN X0.here hx rfl (hb hby d_method_2_code_26) rfl ?_
    show Steps p.tables e below (s₁.setTop (mkF m 27 #[.val (.int p1)] [(.int p1)])) _
    refine XS.iconst X0.here hx rfl (hb hby d_method_2_code_27) ?_
    show Steps p.tables e below (s₁.setTop (mkF m 28 #[.val (.int p1)] [(.int (3 : Int32)), (.int p1)])) _
    refine XS.icmpYes X0.here hx rfl (pc0 := 28) (pc' := 35) rfl (hb hby d_method_2_code_28) rfl (feq hc28).2 (by decide) (by decide) ?_
    show Steps p.tables e below (s₁.setTop (mkF m 35 #[.val (.int p1)] [])) _
    refine XS.iloadN X0.here hx rfl (hb hby d_method_2_code_35) rfl ?_
    show Steps p.tables e below (s₁.setTop (mkF m 36 #[.val (.int p1)] [(.int p1)])) _
    refine XS.iconst X0.here hx rfl (hb hby d_method_2_code_36) ?_
    show Steps p.tables e below (s₁.setTop (mkF m 37 #[.val (.int p1)] [(.int (4 : Int32)), (.int p1)])) _
    refine XS.icmpYes X0.here hx rfl (pc0 := 37) (pc' := 44) rfl (hb hby d_method_2_code_37) rfl (feq hc37).2 (by decide) (by decide) ?_
    show Steps p.tables e below (s₁.setTop (mkF m 44 #[.val (.int p1)] [])) _
    refine XS.iloadN X0.here hx rfl (hb hby d_method_2_code_44) rfl ?_
    show Steps p.tables e below (s₁.setTop (mkF m 45 #[.val (.int p1)] [(.int p1)])) _
    refine XS.iconst X0.here hx rfl (hb hby d_method_2_code_45) ?_
    show Steps p.tables e below (s₁.setTop (mkF m 46 #[.val (.int p1)] [(.int (5 : Int32)), (.int p1)])) _
    refine XS.icmpYes X0.here hx rfl (pc0 := 46) (pc' := 53) rfl (hb hby d_method_2_code_46) rfl (feq hc46).2 (by decide) (by decide) ?_
    show Steps p.tables e below (s₁.setTop (mkF m 53 #[.val (.int p1)] [])) _
    refine XS.iloadN X0.here hx rfl (hb hby d_method_2_code_53) rfl ?_
    show Steps p.tables e below (s₁.setTop (mkF m 54 #[.val (.int p1)] [(.int p1)])) _
    refine XS.bipush X0.here hx rfl (hb hby d_method_2_code_54) ?_
    show Steps p.tables e below (s₁.setTop (mkF m 56 #[.val (.int p1)] [(.int (6 : Int32)), (.int p1)])) _
    refine XS.icmpYes X0.here hx rfl (pc0 := 56) (pc' := 63) rfl (hb hby d_method_2_code_56) rfl (feq hc56).2 (by decide) (by decide) ?_
    show Steps p.tables e below (s₁.setTop (mkF m 63 #[.val (.int p1)] [])) _
    refine XS.iloadN X0.here hx rfl (hb hby d_method_2_code_63) rfl ?_
    show Steps p.tables e below (s₁.setTop (mkF m 64 #[.val (.int p1)] [(.int p1)])) _
    refine XS.bipush X0.here hx rfl (hb hby d_method_2_code_64) ?_
    show Steps p.tables e below (s₁.setTop (mkF m 66 #[.val (.int p1)] [(.int (7 : Int32)), (.int p1)])) _
    refine XS.icmpYes X0.here hx rfl (pc0 := 66) (pc' := 73) rfl (hb hby d_method_2_code_66) rfl (feq hc66).2 (by decide) (by decide) ?_
    show Steps p.tables e below (s₁.setTop (mkF m 73 #[.val (.int p1)] [])) _
    refine XS.iloadN X0.here hx rfl (hb hby d_method_2_code_73) rfl ?_
    show Steps p.tables e below (s₁.setTop (mkF m 74 #[.val (.int p1)] [(.int p1)])) _
    refine XS.bipush X0.here hx rfl (hb hby d_method_2_code_74) ?_
    show Steps p.tables e below (s₁.setTop (mkF m 76 #[.val (.int p1)] [(.int (8 : Int32)), (.int p1)])) _
    refine XS.icmpNo X0.here hx rfl (hb hby d_method_2_code_76) rfl (teq hc76).2 ?_
    show Steps p.tables e below (s₁.setTop (mkF m 79 #[.val (.int p1)] [])) _
    refine st1 _ ?_
    show Steps p.tables e below (T1.setTop (mkF m 82 #[.val (.int p1)] [(.ref c8)])) _
    exact X1.areturnOut hx rfl Bd.returns rfl (hb hby d_method_2_code_82) hr
  · show Q_rmP Z p1 c0 c1 c2 c3 c4 c5 c6 c7 c8 c9 h0 n0 _ T1.heap _
    rw [e1]
    exact ⟨by rw [hres], N0, rfl⟩
set_option maxRecDepth 65536 in
set_option maxHeartbeats 40000000 in
theorem rmP_fffffffff (l : Launch) (Z : State) (a0 : Array Value) (hw : ∀ d ∈ tables_1, d.before a0 Z = true) (ws : List Jvm.Cond) (p1 : Int32) (c0 : Addr) (c1 : Addr) (c2 : Addr) (c3 : Addr) (c4 : Addr) (c5 : Addr) (c6 : Addr) (c7 : Addr) (c8 : Addr) (c9 : Addr) (h0 : Heap) (n0 : Nat) (Z0 : n0 ≤ h0.size) (S_INTEGER_ : Sta Z h0 "com/example/libfiat/libfiat/idl/IdlType$Category" "INTEGER" "Lcom/example/libfiat/libfiat/idl/IdlType$Category;" (.ref c0)) (S_FLOATING_ : Sta Z h0 "com/example/libfiat/libfiat/idl/IdlType$Category" "FLOATING" "Lcom/example/libfiat/libfiat/idl/IdlType$Category;" (.ref c1)) (S_FIXED_ : Sta Z h0 "com/example/libfiat/libfiat/idl/IdlType$Category" "FIXED" "Lcom/example/libfiat/libfiat/idl/IdlType$Category;" (.ref c2)) (S_CHARACTER_ : Sta Z h0 "com/example/libfiat/libfiat/idl/IdlType$Category" "CHARACTER" "Lcom/example/libfiat/libfiat/idl/IdlType$Category;" (.ref c3)) (S_WIDE_CHARACTER_ : Sta Z h0 "com/example/libfiat/libfiat/idl/IdlType$Category" "WIDE_CHARACTER" "Lcom/example/libfiat/libfiat/idl/IdlType$Category;" (.ref c4)) (S_BOOLEAN_ : Sta Z h0 "com/example/libfiat/libfiat/idl/IdlType$Category" "BOOLEAN" "Lcom/example/libfiat/libfiat/idl/IdlType$Category;" (.ref c5)) (S_STRING_ : Sta Z h0 "com/example/libfiat/libfiat/idl/IdlType$Category" "STRING" "Lcom/example/libfiat/libfiat/idl/IdlType$Category;" (.ref c6)) (S_WIDE_STRING_ : Sta Z h0 "com/example/libfiat/libfiat/idl/IdlType$Category" "WIDE_STRING" "Lcom/example/libfiat/libfiat/idl/IdlType$Category;" (.ref c7)) (S_ENUMERATION_ : Sta Z h0 "com/example/libfiat/libfiat/idl/IdlType$Category" "ENUMERATION" "Lcom/example/libfiat/libfiat/idl/IdlType$Category;" (.ref c8)) (S_NONE_ : Sta Z h0 "com/example/libfiat/libfiat/idl/IdlType$Category" "NONE" "Lcom/example/libfiat/libfiat/idl/IdlType$Category;" (.ref c9)) (hc1 : ¬ (p1 = (0 : Int32))) (hc10 : ¬ (p1 = (1 : Int32))) (hc19 : ¬ (p1 = (2 : Int32))) (hc28 : ¬ (p1 = (3 : Int32))) (hc37 : ¬ (p1 = (4 : Int32))) (hc46 : ¬ (p1 = (5 : Int32))) (hc56 : ¬ (p1 = (6 : Int32))) (hc66 : ¬ (p1 = (7 : Int32))) (hc76 : ¬ (p1 = (8 : Int32))) (hres : (own_pick p1 c0 c1 c2 c3 c4 c5 c6 c7 c8 c9) = c9) :
    MetFree l (⟨"com/example/libfiat/libfiat/idl/CategoryDiscriminatesPinLaw", "pick", "(I)Lcom/example/libfiat/libfiat/idl/IdlType$Category;"⟩ : MethodName) (head1 (Jvm.Cond.code (⟨"com/example/libfiat/libfiat/idl/CategoryDiscriminatesPinLaw", "pick", "(I)Lcom/example/libfiat/libfiat/idl/IdlType$Category;"⟩ : MethodName) method_2_code 1 (some (.object "com/example/libfiat/libfiat/idl/IdlType$Category")) :: ws) ({ frames := 0, cells := 0, slots := 0, locals := 0 } : Room)) (fun a U => a = #[(.int p1)] ∧ Z.Warmed39 U.vm ∧ U.heap = h0) (fun _ _ _ _ _ => True) (fun _ U o U' => ∃ v L, o = .returned v ∧ Q_rmP Z p1 c0 c1 c2 c3 c4 c5 c6 c7 c8 c9 h0 n0 v U'.heap L ∧ FrameEnd U o U' L ({ frames := 0, cells := 0, slots := 0, locals := 0 } : Room).cells ({ frames := 0, cells := 0, slots := 0, locals := 0 } : Room).slots) := by
  refine MetFree.of_bodySF (plainFor_of_name pn_0) hisR ?_
  intro p e s m args below meth c s₁ Bd hml0 hP hK
  obtain ⟨rfl, hZ, hh⟩ := hP
  have hx := Bd.exec
  have hby := Bd.bytes
  have hml : c.maxLocals = 1 := hml0
  have hown : s.vm.findClass "com/example/libfiat/libfiat/idl/CategoryDiscriminatesPinLaw" = some m.cls := findClass_of_methodNamed Bd.named
  have hnm := (name_of_methodNamed Bd.named Bd.method).1
  have X0 : Stand p l e ({ frames := 0, cells := 0, slots := 0, locals := 0 } : Room) s m #[(.int p1)] below meth c s₁ [] 0 0 := Stand.of_body Bd
  have e0 : s₁.heap = h0 := by rw [← hh, Bd.state]; rfl
  have N0 := Fr.nil n0
  have pre0 : ∀ t, Steps p.tables e below (s₁.setTop (mkF m 0 #[.val (.int p1)] [])) t → Steps p.tables e below (s₁.setTop (entryFrame m #[(.int p1)] 1)) t := fun t k => castTop (ef_0 m p1) k
  obtain ⟨T1, X1, e1, st1⟩ := getS2 X0 hx hZ hown (host := "") (Or.inl (hw _ (List.mem_of_getElem? (i := 34) rfl))) Via.refl e0 S_NONE_ (g := (mkF m 83 #[.val (.int p1)] [])) rfl (hb hby d_method_2_code_83)
  obtain ⟨fs, hr, hrun, hended, hW, hsame⟩ := X1.leave (v := some (.ref c9)) (fun h => by rw [Bd.returns] at h; cases h)
  refine ⟨_, _, pre0 _ ?_, hrun, hended, _, _, rfl, ?_, ⟨_, rfl⟩, hW, hsame.mono (by decide) (by decide)⟩
  · show Steps p.tables e below (s₁.setTop (mkF m 0 #[.val (.int p1)] [])) _
    refine XS.iloadN X0.here hx rfl (hb hby d_method_2_code_0) rfl ?_
    show Steps p.tables e below (s₁.setTop (mkF m 1 #[.val (.int p1)] [(.int p1)])) _
    refine XS.ifYes X0.here hx rfl (pc0 := 1) (pc' := 8) rfl (hb hby d_method_2_code_1) rfl ((if0 _ _).trans (feq hc1).2) (by decide) (by decide) ?_
    show Steps p.tables e below (s₁.setTop (mkF m 8 #[.val (.int p1)] [])) _
    refine XS.iloadN X0.here hx rfl (hb hby d_method_2_code_8) rfl ?_
    show Steps p.tables e below (s₁.setTop (mkF m 9 #[.val (.int p1)] [(.int p1)])) _
    refine XS.iconst X0.here hx rfl (hb hby d_method_2_code_9) ?_
    show Steps p.tables e below (s₁.setTop (mkF m 10 #[.val (.int p1)] [(.int (1 : Int32)), (.int p1)])) _
    refine XS.icmpYes X0.here hx rfl (pc0 := 10) (pc' := 17) rfl (hb hby d_method_2_code_10) rfl (feq hc10).2 (by decide) (by decide) ?_
    show Steps p.tables e below (s₁.setTop (mkF m 17 #[.val (.int p1)] [])) _
    refine XS.iloadN X0.here hx rfl (hb hby d_method_2_code_17) rfl ?_
    show Steps p.tables e below (s₁.setTop (mkF m 18 #[.val (.int p1)] [(.int p1)])) _
    refine XS.iconst X0.here hx rfl (hb hby d_method_2_code_18) ?_
    show Steps p.tables e below (s₁.setTop (mkF m 19 #[.val (.int p1)] [(.int (2 : Int32)), (.int p1)])) _
    refine XS.icmpYes X0.here hx rfl (pc0 := 19) (pc' := 26) rfl (hb hby d_method_2_code_19) rfl (feq hc19).2 (by decide) (by decide) ?_
    show Steps p.tables e below (s₁.setTop (mkF m 26 #[.val (.int p1)] [])) _
    refine XS.iloadN X0.here hx rfl (hb hby d_method_2_code_26) rfl ?_
    show Steps p.tables e below (s₁.setTop (mkF m 27 #[.val (.int p1)] [(.int p1)])) _
    refine XS.iconst X0.here hx rfl (hb hby d_method_2_code_27) ?_
    show Steps p.tables e below (s₁.setTop (mkF m 28 #[.val (.int p1)] [(.int (3 : Int32)), (.int p1)])) _
    refine XS.icmpYes X0.here hx rfl (pc0 := 28) (pc' := 35) rfl (hb hby d_method_2_code_28) rfl (feq hc28).2 (by decide) (by decide) ?_
    show Steps p.tables e below (s₁.setTop (mkF m 35 #[.val (.int p1)] [])) _
    refine XS.iloadN X0.here hx rfl (hb hby d_method_2_code_35) rfl ?_
    show Steps p.tables e below (s₁.setTop (mkF m 36 #[.val (.int p1)] [(.int p1)])) _
    refine XS.iconst X0.here hx rfl (hb hby d_method_2_code_36) ?_
    show Steps p.tables e below (s₁.setTop (mkF m 37 #[.val (.int p1)] [(.int (4 : Int32)), (.int p1)])) _
    refine XS.icmpYes X0.here hx rfl (pc0 := 37) (pc' := 44) rfl (hb hby d_method_2_code_37) rfl (feq hc37).2 (by decide) (by decide) ?_
    show Steps p.tables e below (s₁.setTop (mkF m 44 #[.val (.int p1)] [])) _
    refine XS.iloadN X0.here hx rfl (hb hby d_method_2_code_44) rfl ?_
    show Steps p.tables e below (s₁.setTop (mkF m 45 #[.val (.int p1)] [(.int p1)])) _
    refine XS.iconst X0.here hx rfl (hb hby d_method_2_code_45) ?_
    show Steps p.tables e below (s₁.setTop (mkF m 46 #[.val (.int p1)] [(.int (5 : Int32)), (.int p1)])) _
    refine XS.icmpYes X0.here hx rfl (pc0 := 46) (pc' := 53) rfl (hb hby d_method_2_code_46) rfl (feq hc46).2 (by decide) (by decide) ?_
    show Steps p.tables e below (s₁.setTop (mkF m 53 #[.val (.int p1)] [])) _
    refine XS.iloadN X0.here hx rfl (hb hby d_method_2_code_53) rfl ?_
    show Steps p.tables e below (s₁.setTop (mkF m 54 #[.val (.int p1)] [(.int p1)])) _
    refine XS.bipush X0.here hx rfl (hb hby d_method_2_code_54) ?_
    show Steps p.tables e below (s₁.setTop (mkF m 56 #[.val (.int p1)] [(.int (6 : Int32)), (.int p1)])) _
    refine XS.icmpYes X0.here hx rfl (pc0 := 56) (pc' := 63) rfl (hb hby d_method_2_code_56) rfl (feq hc56).2 (by decide) (by decide) ?_
    show Steps p.tables e below (s₁.setTop (mkF m 63 #[.val (.int p1)] [])) _
    refine XS.iloadN X0.here hx rfl (hb hby d_method_2_code_63) rfl ?_
    show Steps p.tables e below (s₁.setTop (mkF m 64 #[.val (.int p1)] [(.int p1)])) _
    refine XS.bipush X0.here hx rfl (hb hby d_method_2_code_64) ?_
    show Steps p.tables e below (s₁.setTop (mkF m 66 #[.val (.int p1)] [(.int (7 : Int32)), (.int p1)])) _
    refine XS.icmpYes X0.here hx rfl (pc0 := 66) (pc' := 73) rfl (hb hby d_method_2_code_66) rfl (feq hc66).2 (by decide) (by decide) ?_
    show Steps p.tables e below (s₁.setTop (mkF m 73 #[.val (.int p1)] [])) _
    refine XS.iloadN X0.here hx rfl (hb hby d_method_2_code_73) rfl ?_
    show Steps p.tables e below (s₁.setTop (mkF m 74 #[.val (.int p1)] [(.int p1)])) _
    refine XS.bipush X0.here hx rfl (hb hby d_method_2_code_74) ?_
    show Steps p.tables e below (s₁.setTop (mkF m 76 #[.val (.int p1)] [(.int (8 : Int32)), (.int p1)])) _
    refine XS.icmpYes X0.here hx rfl (pc0 := 76) (pc' := 83) rfl (hb hby d_method_2_code_76) rfl (feq hc76).2 (by decide) (by decide) ?_
    show Steps p.tables e below (s₁.setTop (mkF m 83 #[.val (.int p1)] [])) _
    refine st1 _ ?_
    show Steps p.tables e below (T1.setTop (mkF m 86 #[.val (.int p1)] [(.ref c9)])) _
    exact X1.areturnOut hx rfl Bd.returns rfl (hb hby d_method_2_code_86) hr
  · show Q_rmP Z p1 c0 c1 c2 c3 c4 c5 c6 c7 c8 c9 h0 n0 _ T1.heap _
    rw [e1]
    exact ⟨by rw [hres], N0, rfl⟩
theorem rmP (l : Launch) (Z : State) (a0 : Array Value) (hw : ∀ d ∈ tables_1, d.before a0 Z = true) (ws : List Jvm.Cond) (p1 : Int32) (c0 : Addr) (c1 : Addr) (c2 : Addr) (c3 : Addr) (c4 : Addr) (c5 : Addr) (c6 : Addr) (c7 : Addr) (c8 : Addr) (c9 : Addr) (h0 : Heap) (n0 : Nat) (Z0 : n0 ≤ h0.size) (S_INTEGER_ : Sta Z h0 "com/example/libfiat/libfiat/idl/IdlType$Category" "INTEGER" "Lcom/example/libfiat/libfiat/idl/IdlType$Category;" (.ref c0)) (S_FLOATING_ : Sta Z h0 "com/example/libfiat/libfiat/idl/IdlType$Category" "FLOATING" "Lcom/example/libfiat/libfiat/idl/IdlType$Category;" (.ref c1)) (S_FIXED_ : Sta Z h0 "com/example/libfiat/libfiat/idl/IdlType$Category" "FIXED" "Lcom/example/libfiat/libfiat/idl/IdlType$Category;" (.ref c2)) (S_CHARACTER_ : Sta Z h0 "com/example/libfiat/libfiat/idl/IdlType$Category" "CHARACTER" "Lcom/example/libfiat/libfiat/idl/IdlType$Category;" (.ref c3)) (S_WIDE_CHARACTER_ : Sta Z h0 "com/example/libfiat/libfiat/idl/IdlType$Category" "WIDE_CHARACTER" "Lcom/example/libfiat/libfiat/idl/IdlType$Category;" (.ref c4)) (S_BOOLEAN_ : Sta Z h0 "com/example/libfiat/libfiat/idl/IdlType$Category" "BOOLEAN" "Lcom/example/libfiat/libfiat/idl/IdlType$Category;" (.ref c5)) (S_STRING_ : Sta Z h0 "com/example/libfiat/libfiat/idl/IdlType$Category" "STRING" "Lcom/example/libfiat/libfiat/idl/IdlType$Category;" (.ref c6)) (S_WIDE_STRING_ : Sta Z h0 "com/example/libfiat/libfiat/idl/IdlType$Category" "WIDE_STRING" "Lcom/example/libfiat/libfiat/idl/IdlType$Category;" (.ref c7)) (S_ENUMERATION_ : Sta Z h0 "com/example/libfiat/libfiat/idl/IdlType$Category" "ENUMERATION" "Lcom/example/libfiat/libfiat/idl/IdlType$Category;" (.ref c8)) (S_NONE_ : Sta Z h0 "com/example/libfiat/libfiat/idl/IdlType$Category" "NONE" "Lcom/example/libfiat/libfiat/idl/IdlType$Category;" (.ref c9)) :
    MetFree l (⟨"com/example/libfiat/libfiat/idl/CategoryDiscriminatesPinLaw", "pick", "(I)Lcom/example/libfiat/libfiat/idl/IdlType$Category;"⟩ : MethodName) (head1 (Jvm.Cond.code (⟨"com/example/libfiat/libfiat/idl/CategoryDiscriminatesPinLaw", "pick", "(I)Lcom/example/libfiat/libfiat/idl/IdlType$Category;"⟩ : MethodName) method_2_code 1 (some (.object "com/example/libfiat/libfiat/idl/IdlType$Category")) :: ws) ({ frames := 0, cells := 0, slots := 0, locals := 0 } : Room)) (fun a U => a = #[(.int p1)] ∧ Z.Warmed39 U.vm ∧ U.heap = h0) (fun _ _ _ _ _ => True) (fun _ U o U' => ∃ v L, o = .returned v ∧ Q_rmP Z p1 c0 c1 c2 c3 c4 c5 c6 c7 c8 c9 h0 n0 v U'.heap L ∧ FrameEnd U o U' L ({ frames := 0, cells := 0, slots := 0, locals := 0 } : Room).cells ({ frames := 0, cells := 0, slots := 0, locals := 0 } : Room).slots) := by
  by_cases hc1 : p1 = (0 : Int32)
  · skip
    exact rmP_t l Z a0 hw ws p1 c0 c1 c2 c3 c4 c5 c6 c7 c8 c9 h0 n0 Z0 S_INTEGER_ S_FLOATING_ S_FIXED_ S_CHARACTER_ S_WIDE_CHARACTER_ S_BOOLEAN_ S_STRING_ S_WIDE_STRING_ S_ENUMERATION_ S_NONE_ hc1 (by unfold own_pick; simp [*])
  · skip
    by_cases hc10 : p1 = (1 : Int32)
    · skip
      exact rmP_ft l Z a0 hw ws p1 c0 c1 c2 c3 c4 c5 c6 c7 c8 c9 h0 n0 Z0 S_INTEGER_ S_FLOATING_ S_FIXED_ S_CHARACTER_ S_WIDE_CHARACTER_ S_BOOLEAN_ S_STRING_ S_WIDE_STRING_ S_ENUMERATION_ S_NONE_ hc1 hc10 (by unfold own_pick; simp [*])
    · skip
      by_cases hc19 : p1 = (2 : Int32)
      · skip
        exact rmP_fft l Z a0 hw ws p1 c0 c1 c2 c3 c4 c5 c6 c7 c8 c9 h0 n0 Z0 S_INTEGER_ S_FLOATING_ S_FIXED_ S_CHARACTER_ S_WIDE_CHARACTER_ S_BOOLEAN_ S_STRING_ S_WIDE_STRING_ S_ENUMERATION_ S_NONE_ hc1 hc10 hc19 (by unfold own_pick; simp [*])
      · skip
        by_cases hc28 : p1 = (3 : Int32)
        · skip
          exact rmP_ffft l Z a0 hw ws p1 c0 c1 c2 c3 c4 c5 c6 c7 c8 c9 h0 n0 Z0 S_INTEGER_ S_FLOATING_ S_FIXED_ S_CHARACTER_ S_WIDE_CHARACTER_ S_BOOLEAN_ S_STRING_ S_WIDE_STRING_ S_ENUMERATION_ S_NONE_ hc1 hc10 hc19 hc28 (by unfold own_pick; simp [*])
        · skip
          by_cases hc37 : p1 = (4 : Int32)
          · skip
            exact rmP_fffft l Z a0 hw ws p1 c0 c1 c2 c3 c4 c5 c6 c7 c8 c9 h0 n0 Z0 S_INTEGER_ S_FLOATING_ S_FIXED_ S_CHARACTER_ S_WIDE_CHARACTER_ S_BOOLEAN_ S_STRING_ S_WIDE_STRING_ S_ENUMERATION_ S_NONE_ hc1 hc10 hc19 hc28 hc37 (by unfold own_pick; simp [*])
          · skip
            by_cases hc46 : p1 = (5 : Int32)
            · skip
              exact rmP_ffffft l Z a0 hw ws p1 c0 c1 c2 c3 c4 c5 c6 c7 c8 c9 h0 n0 Z0 S_INTEGER_ S_FLOATING_ S_FIXED_ S_CHARACTER_ S_WIDE_CHARACTER_ S_BOOLEAN_ S_STRING_ S_WIDE_STRING_ S_ENUMERATION_ S_NONE_ hc1 hc10 hc19 hc28 hc37 hc46 (by unfold own_pick; simp [*])
            · skip
              by_cases hc56 : p1 = (6 : Int32)
              · skip
                exact rmP_fffffft l Z a0 hw ws p1 c0 c1 c2 c3 c4 c5 c6 c7 c8 c9 h0 n0 Z0 S_INTEGER_ S_FLOATING_ S_FIXED_ S_CHARACTER_ S_WIDE_CHARACTER_ S_BOOLEAN_ S_STRING_ S_WIDE_STRING_ S_ENUMERATION_ S_NONE_ hc1 hc10 hc19 hc28 hc37 hc46 hc56 (by unfold own_pick; simp [*])
              · skip
                by_cases hc66 : p1 = (7 : Int32)
                · skip
                  exact rmP_ffffffft l Z a0 hw ws p1 c0 c1 c2 c3 c4 c5 c6 c7 c8 c9 h0 n0 Z0 S_INTEGER_ S_FLOATING_ S_FIXED_ S_CHARACTER_ S_WIDE_CHARACTER_ S_BOOLEAN_ S_STRING_ S_WIDE_STRING_ S_ENUMERATION_ S_NONE_ hc1 hc10 hc19 hc28 hc37 hc46 hc56 hc66 (by unfold own_pick; simp [*])
                · skip
                  by_cases hc76 : p1 = (8 : Int32)
                  · skip
                    exact rmP_fffffffft l Z a0 hw ws p1 c0 c1 c2 c3 c4 c5 c6 c7 c8 c9 h0 n0 Z0 S_INTEGER_ S_FLOATING_ S_FIXED_ S_CHARACTER_ S_WIDE_CHARACTER_ S_BOOLEAN_ S_STRING_ S_WIDE_STRING_ S_ENUMERATION_ S_NONE_ hc1 hc10 hc19 hc28 hc37 hc46 hc56 hc66 hc76 (by unfold own_pick; simp [*])
                  · skip
                    exact rmP_fffffffff l Z a0 hw ws p1 c0 c1 c2 c3 c4 c5 c6 c7 c8 c9 h0 n0 Z0 S_INTEGER_ S_FLOATING_ S_FIXED_ S_CHARACTER_ S_WIDE_CHARACTER_ S_BOOLEAN_ S_STRING_ S_WIDE_STRING_ S_ENUMERATION_ S_NONE_ hc1 hc10 hc19 hc28 hc37 hc46 hc56 hc66 hc76 (by unfold own_pick; simp [*])
theorem d_prog_37_method_4_code_0 : decode prog_37_method_4_code 0 = .ok (.aload_n 0, 1) := by decide +kernel
theorem d_prog_37_method_4_code_1 : decode prog_37_method_4_code 1 = .ok (.getstatic 3, 3) := by decide +kernel
theorem d_prog_37_method_4_code_4 : decode prog_37_method_4_code 4 = .ok (.if_acmp .eq 31, 3) := by decide +kernel
theorem d_prog_37_method_4_code_35 : decode prog_37_method_4_code 35 = .ok (.iconst 1, 1) := by decide +kernel
theorem d_prog_37_method_4_code_36 : decode prog_37_method_4_code 36 = .ok (.goto 4, 3) := by decide +kernel
theorem d_prog_37_method_4_code_40 : decode prog_37_method_4_code 40 = .ok (.ireturn, 1) := by decide +kernel
theorem d_prog_37_method_4_code_7 : decode prog_37_method_4_code 7 = .ok (.aload_n 0, 1) := by decide +kernel
theorem d_prog_37_method_4_code_8 : decode prog_37_method_4_code 8 = .ok (.getstatic 13, 3) := by decide +kernel
theorem d_prog_37_method_4_code_11 : decode prog_37_method_4_code 11 = .ok (.if_acmp .eq 24, 3) := by decide +kernel
theorem d_prog_37_method_4_code_14 : decode prog_37_method_4_code 14 = .ok (.aload_n 0, 1) := by decide +kernel
theorem d_prog_37_method_4_code_15 : decode prog_37_method_4_code 15 = .ok (.getstatic 16, 3) := by decide +kernel
theorem d_prog_37_method_4_code_18 : decode prog_37_method_4_code 18 = .ok (.if_acmp .eq 17, 3) := by decide +kernel
theorem d_prog_37_method_4_code_21 : decode prog_37_method_4_code 21 = .ok (.aload_n 0, 1) := by decide +kernel
theorem d_prog_37_method_4_code_22 : decode prog_37_method_4_code 22 = .ok (.getstatic 19, 3) := by decide +kernel
theorem d_prog_37_method_4_code_25 : decode prog_37_method_4_code 25 = .ok (.if_acmp .eq 10, 3) := by decide +kernel
theorem d_prog_37_method_4_code_28 : decode prog_37_method_4_code 28 = .ok (.aload_n 0, 1) := by decide +kernel
theorem d_prog_37_method_4_code_29 : decode prog_37_method_4_code 29 = .ok (.getstatic 28, 3) := by decide +kernel
theorem d_prog_37_method_4_code_32 : decode prog_37_method_4_code 32 = .ok (.if_acmp .ne 7, 3) := by decide +kernel
theorem d_prog_37_method_4_code_39 : decode prog_37_method_4_code 39 = .ok (.iconst 0, 1) := by decide +kernel
def Q_rmD (Z : State) (a1 : Addr) (c0 : Addr) (c3 : Addr) (c4 : Addr) (c5 : Addr) (c8 : Addr) (h0 : Heap) (n0 : Nat) (v : Option Value) (h : Heap) (L : List Loc) : Prop := v = some (.int (own_disc a1 c0 c3 c4 c5 c8)) ∧ Fr n0 L ∧ h = h0
theorem pn_1 : plainName "com/example/libfiat/libfiat/idl/IdlType$Category" = true := by first | (simp [plainName, overriddenIn]; done) | decide +kernel
theorem ef_1 (m : MethodId) (x0 : Addr) : entryFrame m #[(.ref x0)] 1 = mkF m 0 #[.val (.ref x0)] [] := by first | (simp [entryFrame, mkF, argsToLocals, Value.category]; done) | rfl
set_option maxRecDepth 65536 in
set_option maxHeartbeats 40000000 in
theorem rmD_t (l : Launch) (Z : State) (a0 : Array Value) (hw : ∀ d ∈ tables_1, d.before a0 Z = true) (ws : List Jvm.Cond) (a1 : Addr) (c0 : Addr) (c3 : Addr) (c4 : Addr) (c5 : Addr) (c8 : Addr) (h0 : Heap) (n0 : Nat) (Z0 : n0 ≤ h0.size) (S_INTEGER_ : Sta Z h0 "com/example/libfiat/libfiat/idl/IdlType$Category" "INTEGER" "Lcom/example/libfiat/libfiat/idl/IdlType$Category;" (.ref c0)) (S_CHARACTER_ : Sta Z h0 "com/example/libfiat/libfiat/idl/IdlType$Category" "CHARACTER" "Lcom/example/libfiat/libfiat/idl/IdlType$Category;" (.ref c3)) (S_WIDE_CHARACTER_ : Sta Z h0 "com/example/libfiat/libfiat/idl/IdlType$Category" "WIDE_CHARACTER" "Lcom/example/libfiat/libfiat/idl/IdlType$Category;" (.ref c4)) (S_BOOLEAN_ : Sta Z h0 "com/example/libfiat/libfiat/idl/IdlType$Category" "BOOLEAN" "Lcom/example/libfiat/libfiat/idl/IdlType$Category;" (.ref c5)) (S_ENUMERATION_ : Sta Z h0 "com/example/libfiat/libfiat/idl/IdlType$Category" "ENUMERATION" "Lcom/example/libfiat/libfiat/idl/IdlType$Category;" (.ref c8)) (hc4 : a1 = c0) (hres : (own_disc a1 c0 c3 c4 c5 c8) = (1 : Int32)) :
    MetFree l (⟨"com/example/libfiat/libfiat/idl/IdlType$Category", "discriminates", "()Z"⟩ : MethodName) (head1 (Jvm.Cond.code (⟨"com/example/libfiat/libfiat/idl/IdlType$Category", "discriminates", "()Z"⟩ : MethodName) prog_37_method_4_code 1 (some .boolean) :: ws) ({ frames := 0, cells := 0, slots := 0, locals := 0 } : Room)) (fun a U => a = #[(.ref a1)] ∧ Z.Warmed39 U.vm ∧ U.heap = h0) (fun _ _ _ _ _ => True) (fun _ U o U' => ∃ v L, o = .returned v ∧ Q_rmD Z a1 c0 c3 c4 c5 c8 h0 n0 v U'.heap L ∧ FrameEnd U o U' L ({ frames := 0, cells := 0, slots := 0, locals := 0 } : Room).cells ({ frames := 0, cells := 0, slots := 0, locals := 0 } : Room).slots) := by
  refine MetFree.of_bodySF (plainFor_of_name pn_1) hisR ?_
  intro p e s m args below meth c s₁ Bd hml0 hP hK
  obtain ⟨rfl, hZ, hh⟩ := hP
  have hx := Bd.exec
  have hby := Bd.bytes
  have hml : c.maxLocals = 1 := hml0
  have hown : s.vm.findClass "com/example/libfiat/libfiat/idl/IdlType$Category" = some m.cls := findClass_of_methodNamed Bd.named
  have hnm := (name_of_methodNamed Bd.named Bd.method).1
  have X0 : Stand p l e ({ frames := 0, cells := 0, slots := 0, locals := 0 } : Room) s m #[(.ref a1)] below meth c s₁ [] 0 0 := Stand.of_body Bd
  have e0 : s₁.heap = h0 := by rw [← hh, Bd.state]; rfl
  have N0 := Fr.nil n0
  have pre0 : ∀ t, Steps p.tables e below (s₁.setTop (mkF m 0 #[.val (.ref a1)] [])) t → Steps p.tables e below (s₁.setTop (entryFrame m #[(.ref a1)] 1)) t := fun t k => castTop (ef_1 m a1) k
  obtain ⟨T1, X1, e1, st1⟩ := getS2 X0 hx hZ hown (host := "") (Or.inl (hw _ (List.mem_of_getElem? (i := 13) rfl))) Via.refl e0 S_INTEGER_ (g := (mkF m 1 #[.val (.ref a1)] [(.ref a1)])) rfl (hb hby d_prog_37_method_4_code_1)
  obtain ⟨fs, hr, hrun, hended, hW, hsame⟩ := X1.leave (v := some (.int (1 : Int32))) (fun h => by rw [Bd.returns] at h; cases h)
  refine ⟨_, _, pre0 _ ?_, hrun, hended, _, _, rfl, ?_, ⟨_, rfl⟩, hW, hsame.mono (by decide) (by decide)⟩
  · show Steps p.tables e below (s₁.setTop (mkF m 0 #[.val (.ref a1)] [])) _
    refine XS.aloadN X0.here hx rfl (hb hby d_prog_37_method_4_code_0) rfl rfl ?_
    show Steps p.tables e below (s₁.setTop (mkF m 1 #[.val (.ref a1)] [(.ref a1)])) _
    refine st1 _ ?_
    show Steps p.tables e below (T1.setTop (mkF m 4 #[.val (.ref a1)] [(.ref c0), (.ref a1)])) _
    refine Jvm.RoadKit.acmp (g := (mkF m 4 #[.val (.ref a1)] [(.ref c0), (.ref a1)])) X1 hx rfl rfl rfl (pc0 := 4) (pc' := 35) (same := true) rfl (hb hby d_prog_37_method_4_code_4) rfl (decide_eq_true (congrArg Value.ref hc4)) (by decide) (by decide) ?_
    show Steps p.tables e below (T1.setTop (mkF m 35 #[.val (.ref a1)] [])) _
    refine XS.iconst X1.here hx rfl (hb hby d_prog_37_method_4_code_35) ?_
    show Steps p.tables e below (T1.setTop (mkF m 36 #[.val (.ref a1)] [(.int (1 : Int32))])) _
    refine XS.goto X1.here hx rfl (pc0 := 36) (pc' := 40) rfl (hb hby d_prog_37_method_4_code_36) (by decide) (by decide) ?_
    show Steps p.tables e below (T1.setTop (mkF m 40 #[.val (.ref a1)] [(.int (1 : Int32))])) _
    exact retN X1 hx (t := .boolean) Bd.returns (by simp) (hb hby d_prog_37_method_4_code_40) hr
  · show Q_rmD Z a1 c0 c3 c4 c5 c8 h0 n0 _ T1.heap _
    rw [e1]
    exact ⟨by rw [hres], N0, rfl⟩
set_option maxRecDepth 65536 in
set_option maxHeartbeats 40000000 in
theorem rmD_ft (l : Launch) (Z : State) (a0 : Array Value) (hw : ∀ d ∈ tables_1, d.before a0 Z = true) (ws : List Jvm.Cond) (a1 : Addr) (c0 : Addr) (c3 : Addr) (c4 : Addr) (c5 : Addr) (c8 : Addr) (h0 : Heap) (n0 : Nat) (Z0 : n0 ≤ h0.size) (S_INTEGER_ : Sta Z h0 "com/example/libfiat/libfiat/idl/IdlType$Category" "INTEGER" "Lcom/example/libfiat/libfiat/idl/IdlType$Category;" (.ref c0)) (S_CHARACTER_ : Sta Z h0 "com/example/libfiat/libfiat/idl/IdlType$Category" "CHARACTER" "Lcom/example/libfiat/libfiat/idl/IdlType$Category;" (.ref c3)) (S_WIDE_CHARACTER_ : Sta Z h0 "com/example/libfiat/libfiat/idl/IdlType$Category" "WIDE_CHARACTER" "Lcom/example/libfiat/libfiat/idl/IdlType$Category;" (.ref c4)) (S_BOOLEAN_ : Sta Z h0 "com/example/libfiat/libfiat/idl/IdlType$Category" "BOOLEAN" "Lcom/example/libfiat/libfiat/idl/IdlType$Category;" (.ref c5)) (S_ENUMERATION_ : Sta Z h0 "com/example/libfiat/libfiat/idl/IdlType$Category" "ENUMERATION" "Lcom/example/libfiat/libfiat/idl/IdlType$Category;" (.ref c8)) (hc4 : ¬ (a1 = c0)) (hc11 : a1 = c3) (hres : (own_disc a1 c0 c3 c4 c5 c8) = (1 : Int32)) :
    MetFree l (⟨"com/example/libfiat/libfiat/idl/IdlType$Category", "discriminates", "()Z"⟩ : MethodName) (head1 (Jvm.Cond.code (⟨"com/example/libfiat/libfiat/idl/IdlType$Category", "discriminates", "()Z"⟩ : MethodName) prog_37_method_4_code 1 (some .boolean) :: ws) ({ frames := 0, cells := 0, slots := 0, locals := 0 } : Room)) (fun a U => a = #[(.ref a1)] ∧ Z.Warmed39 U.vm ∧ U.heap = h0) (fun _ _ _ _ _ => True) (fun _ U o U' => ∃ v L, o = .returned v ∧ Q_rmD Z a1 c0 c3 c4 c5 c8 h0 n0 v U'.heap L ∧ FrameEnd U o U' L ({ frames := 0, cells := 0, slots := 0, locals := 0 } : Room).cells ({ frames := 0, cells := 0, slots := 0, locals := 0 } : Room).slots) := by
  refine MetFree.of_bodySF (plainFor_of_name pn_1) hisR ?_
  intro p e s m args below meth c s₁ Bd hml0 hP hK
  obtain ⟨rfl, hZ, hh⟩ := hP
  have hx := Bd.exec
  have hby := Bd.bytes
  have hml : c.maxLocals = 1 := hml0
  have hown : s.vm.findClass "com/example/libfiat/libfiat/idl/IdlType$Category" = some m.cls := findClass_of_methodNamed Bd.named
  have hnm := (name_of_methodNamed Bd.named Bd.method).1
  have X0 : Stand p l e ({ frames := 0, cells := 0, slots := 0, locals := 0 } : Room) s m #[(.ref a1)] below meth c s₁ [] 0 0 := Stand.of_body Bd
  have e0 : s₁.heap = h0 := by rw [← hh, Bd.state]; rfl
  have N0 := Fr.nil n0
  have pre0 : ∀ t, Steps p.tables e below (s₁.setTop (mkF m 0 #[.val (.ref a1)] [])) t → Steps p.tables e below (s₁.setTop (entryFrame m #[(.ref a1)] 1)) t := fun t k => castTop (ef_1 m a1) k
  obtain ⟨T1, X1, e1, st1⟩ := getS2 X0 hx hZ hown (host := "") (Or.inl (hw _ (List.mem_of_getElem? (i := 13) rfl))) Via.refl e0 S_INTEGER_ (g := (mkF m 1 #[.val (.ref a1)] [(.ref a1)])) rfl (hb hby d_prog_37_method_4_code_1)
  obtain ⟨T2, X2, e2, st2⟩ := getS2 X1 hx hZ hown (host := "") (Or.inl (hw _ (List.mem_of_getElem? (i := 19) rfl))) Via.refl e1 S_CHARACTER_ (g := (mkF m 8 #[.val (.ref a1)] [(.ref a1)])) rfl (hb hby d_prog_37_method_4_code_8)
  obtain ⟨fs, hr, hrun, hended, hW, hsame⟩ := X2.leave (v := some (.int (1 : Int32))) (fun h => by rw [Bd.returns] at h; cases h)
  refine ⟨_, _, pre0 _ ?_, hrun, hended, _, _, rfl, ?_, ⟨_, rfl⟩, hW, hsame.mono (by decide) (by decide)⟩
  · show Steps p.tables e below (s₁.setTop (mkF m 0 #[.val (.ref a1)] [])) _
    refine XS.aloadN X0.here hx rfl (hb hby d_prog_37_method_4_code_0) rfl rfl ?_
    show Steps p.tables e below (s₁.setTop (mkF m 1 #[.val (.ref a1)] [(.ref a1)])) _
    refine st1 _ ?_
    show Steps p.tables e below (T1.setTop (mkF m 4 #[.val (.ref a1)] [(.ref c0), (.ref a1)])) _
    refine Jvm.RoadKit.acmp (g := (mkF m 4 #[.val (.ref a1)] [(.ref c0), (.ref a1)])) X1 hx rfl rfl rfl (pc0 := 4) (pc' := 7) (same := false) rfl (hb hby d_prog_37_method_4_code_4) rfl (decide_eq_false fun q => hc4 (Value.ref.inj q)) (by decide) (by decide) ?_
    show Steps p.tables e below (T1.setTop (mkF m 7 #[.val (.ref a1)] [])) _
    refine XS.aloadN X1.here hx rfl (hb hby d_prog_37_method_4_code_7) rfl rfl ?_
    show Steps p.tables e below (T1.setTop (mkF m 8 #[.val (.ref a1)] [(.ref a1)])) _
    refine st2 _ ?_
    show Steps p.tables e below (T2.setTop (mkF m 11 #[.val (.ref a1)] [(.ref c3), (.ref a1)])) _
    refine Jvm.RoadKit.acmp (g := (mkF m 11 #[.val (.ref a1)] [(.ref c3), (.ref a1)])) X2 hx rfl rfl rfl (pc0 := 11) (pc' := 35) (same := true) rfl (hb hby d_prog_37_method_4_code_11) rfl (decide_eq_true (congrArg Value.ref hc11)) (by decide) (by decide) ?_
    show Steps p.tables e below (T2.setTop (mkF m 35 #[.val (.ref a1)] [])) _
    refine XS.iconst X2.here hx rfl (hb hby d_prog_37_method_4_code_35) ?_
    show Steps p.tables e below (T2.setTop (mkF m 36 #[.val (.ref a1)] [(.int (1 : Int32))])) _
    refine XS.goto X2.here hx rfl (pc0 := 36) (pc' := 40) rfl (hb hby d_prog_37_method_4_code_36) (by decide) (by decide) ?_
    show Steps p.tables e below (T2.setTop (mkF m 40 #[.val (.ref a1)] [(.int (1 : Int32))])) _
    exact retN X2 hx (t := .boolean) Bd.returns (by simp) (hb hby d_prog_37_method_4_code_40) hr
  · show Q_rmD Z a1 c0 c3 c4 c5 c8 h0 n0 _ T2.heap _
    rw [e2]
    exact ⟨by rw [hres], N0, rfl⟩
set_option maxRecDepth 65536 in
set_option maxHeartbeats 40000000 in
theorem rmD_fft (l : Launch) (Z : State) (a0 : Array Value) (hw : ∀ d ∈ tables_1, d.before a0 Z = true) (ws : List Jvm.Cond) (a1 : Addr) (c0 : Addr) (c3 : Addr) (c4 : Addr) (c5 : Addr) (c8 : Addr) (h0 : Heap) (n0 : Nat) (Z0 : n0 ≤ h0.size) (S_INTEGER_ : Sta Z h0 "com/example/libfiat/libfiat/idl/IdlType$Category" "INTEGER" "Lcom/example/libfiat/libfiat/idl/IdlType$Category;" (.ref c0)) (S_CHARACTER_ : Sta Z h0 "com/example/libfiat/libfiat/idl/IdlType$Category" "CHARACTER" "Lcom/example/libfiat/libfiat/idl/IdlType$Category;" (.ref c3)) (S_WIDE_CHARACTER_ : Sta Z h0 "com/example/libfiat/libfiat/idl/IdlType$Category" "WIDE_CHARACTER" "Lcom/example/libfiat/libfiat/idl/IdlType$Category;" (.ref c4)) (S_BOOLEAN_ : Sta Z h0 "com/example/libfiat/libfiat/idl/IdlType$Category" "BOOLEAN" "Lcom/example/libfiat/libfiat/idl/IdlType$Category;" (.ref c5)) (S_ENUMERATION_ : Sta Z h0 "com/example/libfiat/libfiat/idl/IdlType$Category" "ENUMERATION" "Lcom/example/libfiat/libfiat/idl/IdlType$Category;" (.ref c8)) (hc4 : ¬ (a1 = c0)) (hc11 : ¬ (a1 = c3)) (hc18 : a1 = c4) (hres : (own_disc a1 c0 c3 c4 c5 c8) = (1 : Int32)) :
    MetFree l (⟨"com/example/libfiat/libfiat/idl/IdlType$Category", "discriminates", "()Z"⟩ : MethodName) (head1 (Jvm.Cond.code (⟨"com/example/libfiat/libfiat/idl/IdlType$Category", "discriminates", "()Z"⟩ : MethodName) prog_37_method_4_code 1 (some .boolean) :: ws) ({ frames := 0, cells := 0, slots := 0, locals := 0 } : Room)) (fun a U => a = #[(.ref a1)] ∧ Z.Warmed39 U.vm ∧ U.heap = h0) (fun _ _ _ _ _ => True) (fun _ U o U' => ∃ v L, o = .returned v ∧ Q_rmD Z a1 c0 c3 c4 c5 c8 h0 n0 v U'.heap L ∧ FrameEnd U o U' L ({ frames := 0, cells := 0, slots := 0, locals := 0 } : Room).cells ({ frames := 0, cells := 0, slots := 0, locals := 0 } : Room).slots) := by
  refine MetFree.of_bodySF (plainFor_of_name pn_1) hisR ?_
  intro p e s m args below meth c s₁ Bd hml0 hP hK
  obtain ⟨rfl, hZ, hh⟩ := hP
  have hx := Bd.exec
  have hby := Bd.bytes
  have hml : c.maxLocals = 1 := hml0
  have hown : s.vm.findClass "com/example/libfiat/libfiat/idl/IdlType$Category" = some m.cls := findClass_of_methodNamed Bd.named
  have hnm := (name_of_methodNamed Bd.named Bd.method).1
  have X0 : Stand p l e ({ frames := 0, cells := 0, slots := 0, locals := 0 } : Room) s m #[(.ref a1)] below meth c s₁ [] 0 0 := Stand.of_body Bd
  have e0 : s₁.heap = h0 := by rw [← hh, Bd.state]; rfl
  have N0 := Fr.nil n0
  have pre0 : ∀ t, Steps p.tables e below (s₁.setTop (mkF m 0 #[.val (.ref a1)] [])) t → Steps p.tables e below (s₁.setTop (entryFrame m #[(.ref a1)] 1)) t := fun t k => castTop (ef_1 m a1) k
  obtain ⟨T1, X1, e1, st1⟩ := getS2 X0 hx hZ hown (host := "") (Or.inl (hw _ (List.mem_of_getElem? (i := 13) rfl))) Via.refl e0 S_INTEGER_ (g := (mkF m 1 #[.val (.ref a1)] [(.ref a1)])) rfl (hb hby d_prog_37_method_4_code_1)
  obtain ⟨T2, X2, e2, st2⟩ := getS2 X1 hx hZ hown (host := "") (Or.inl (hw _ (List.mem_of_getElem? (i := 19) rfl))) Via.refl e1 S_CHARACTER_ (g := (mkF m 8 #[.val (.ref a1)] [(.ref a1)])) rfl (hb hby d_prog_37_method_4_code_8)
  obtain ⟨T3, X3, e3, st3⟩ := getS2 X2 hx hZ hown (host := "") (Or.inl (hw _ (List.mem_of_getElem? (i := 22) rfl))) Via.refl e2 S_WIDE_CHARACTER_ (g := (mkF m 15 #[.val (.ref a1)] [(.ref a1)])) rfl (hb hby d_prog_37_method_4_code_15)
  obtain ⟨fs, hr, hrun, hended, hW, hsame⟩ := X3.leave (v := some (.int (1 : Int32))) (fun h => by rw [Bd.returns] at h; cases h)
  refine ⟨_, _, pre0 _ ?_, hrun, hended, _, _, rfl, ?_, ⟨_, rfl⟩, hW, hsame.mono (by decide) (by decide)⟩
  · show Steps p.tables e below (s₁.setTop (mkF m 0 #[.val (.ref a1)] [])) _
    refine XS.aloadN X0.here hx rfl (hb hby d_prog_37_method_4_code_0) rfl rfl ?_
    show Steps p.tables e below (s₁.setTop (mkF m 1 #[.val (.ref a1)] [(.ref a1)])) _
    refine st1 _ ?_
    show Steps p.tables e below (T1.setTop (mkF m 4 #[.val (.ref a1)] [(.ref c0), (.ref a1)])) _
    refine Jvm.RoadKit.acmp (g := (mkF m 4 #[.val (.ref a1)] [(.ref c0), (.ref a1)])) X1 hx rfl rfl rfl (pc0 := 4) (pc' := 7) (same := false) rfl (hb hby d_prog_37_method_4_code_4) rfl (decide_eq_false fun q => hc4 (Value.ref.inj q)) (by decide) (by decide) ?_
    show Steps p.tables e below (T1.setTop (mkF m 7 #[.val (.ref a1)] [])) _
    refine XS.aloadN X1.here hx rfl (hb hby d_prog_37_method_4_code_7) rfl rfl ?_
    show Steps p.tables e below (T1.setTop (mkF m 8 #[.val (.ref a1)] [(.ref a1)])) _
    refine st2 _ ?_
    show Steps p.tables e below (T2.setTop (mkF m 11 #[.val (.ref a1)] [(.ref c3), (.ref a1)])) _
    refine Jvm.RoadKit.acmp (g := (mkF m 11 #[.val (.ref a1)] [(.ref c3), (.ref a1)])) X2 hx rfl rfl rfl (pc0 := 11) (pc' := 14) (same := false) rfl (hb hby d_prog_37_method_4_code_11) rfl (decide_eq_false fun q => hc11 (Value.ref.inj q)) (by decide) (by decide) ?_
    show Steps p.tables e below (T2.setTop (mkF m 14 #[.val (.ref a1)] [])) _
    refine XS.aloadN X2.here hx rfl (hb hby d_prog_37_method_4_code_14) rfl rfl ?_
    show Steps p.tables e below (T2.setTop (mkF m 15 #[.val (.ref a1)] [(.ref a1)])) _
    refine st3 _ ?_
    show Steps p.tables e below (T3.setTop (mkF m 18 #[.val (.ref a1)] [(.ref c4), (.ref a1)])) _
    refine Jvm.RoadKit.acmp (g := (mkF m 18 #[.val (.ref a1)] [(.ref c4), (.ref a1)])) X3 hx rfl rfl rfl (pc0 := 18) (pc' := 35) (same := true) rfl (hb hby d_prog_37_method_4_code_18) rfl (decide_eq_true (congrArg Value.ref hc18)) (by decide) (by decide) ?_
    show Steps p.tables e below (T3.setTop (mkF m 35 #[.val (.ref a1)] [])) _
    refine XS.iconst X3.here hx rfl (hb hby d_prog_37_method_4_code_35) ?_
    show Steps p.tables e below (T3.setTop (mkF m 36 #[.val (.ref a1)] [(.int (1 : Int32))])) _
    refine XS.goto X3.here hx rfl (pc0 := 36) (pc' := 40) rfl (hb hby d_prog_37_method_4_code_36) (by decide) (by decide) ?_
    show Steps p.tables e below (T3.setTop (mkF m 40 #[.val (.ref a1)] [(.int (1 : Int32))])) _
    exact retN X3 hx (t := .boolean) Bd.returns (by simp) (hb hby d_prog_37_method_4_code_40) hr
  · show Q_rmD Z a1 c0 c3 c4 c5 c8 h0 n0 _ T3.heap _
    rw [e3]
    exact ⟨by rw [hres], N0, rfl⟩
set_option maxRecDepth 65536 in
set_option maxHeartbeats 40000000 in
theorem rmD_ffft (l : Launch) (Z : State) (a0 : Array Value) (hw : ∀ d ∈ tables_1, d.before a0 Z = true) (ws : List Jvm.Cond) (a1 : Addr) (c0 : Addr) (c3 : Addr) (c4 : Addr) (c5 : Addr) (c8 : Addr) (h0 : Heap) (n0 : Nat) (Z0 : n0 ≤ h0.size) (S_INTEGER_ : Sta Z h0 "com/example/libfiat/libfiat/idl/IdlType$Category" "INTEGER" "Lcom/example/libfiat/libfiat/idl/IdlType$Category;" (.ref c0)) (S_CHARACTER_ : Sta Z h0 "com/example/libfiat/libfiat/idl/IdlType$Category" "CHARACTER" "Lcom/example/libfiat/libfiat/idl/IdlType$Category;" (.ref c3)) (S_WIDE_CHARACTER_ : Sta Z h0 "com/example/libfiat/libfiat/idl/IdlType$Category" "WIDE_CHARACTER" "Lcom/example/libfiat/libfiat/idl/IdlType$Category;" (.ref c4)) (S_BOOLEAN_ : Sta Z h0 "com/example/libfiat/libfiat/idl/IdlType$Category" "BOOLEAN" "Lcom/example/libfiat/libfiat/idl/IdlType$Category;" (.ref c5)) (S_ENUMERATION_ : Sta Z h0 "com/example/libfiat/libfiat/idl/IdlType$Category" "ENUMERATION" "Lcom/example/libfiat/libfiat/idl/IdlType$Category;" (.ref c8)) (hc4 : ¬ (a1 = c0)) (hc11 : ¬ (a1 = c3)) (hc18 : ¬ (a1 = c4)) (hc25 : a1 = c5) (hres : (own_disc a1 c0 c3 c4 c5 c8) = (1 : Int32)) :
    MetFree l (⟨"com/example/libfiat/libfiat/idl/IdlType$Category", "discriminates", "()Z"⟩ : MethodName) (head1 (Jvm.Cond.code (⟨"com/example/libfiat/libfiat/idl/IdlType$Category", "discriminates", "()Z"⟩ : MethodName) prog_37_method_4_code 1 (some .boolean) :: ws) ({ frames := 0, cells := 0, slots := 0, locals := 0 } : Room)) (fun a U => a = #[(.ref a1)] ∧ Z.Warmed39 U.vm ∧ U.heap = h0) (fun _ _ _ _ _ => True) (fun _ U o U' => ∃ v L, o = .returned v ∧ Q_rmD Z a1 c0 c3 c4 c5 c8 h0 n0 v U'.heap L ∧ FrameEnd U o U' L ({ frames := 0, cells := 0, slots := 0, locals := 0 } : Room).cells ({ frames := 0, cells := 0, slots := 0, locals := 0 } : Room).slots) := by
  refine MetFree.of_bodySF (plainFor_of_name pn_1) hisR ?_
  intro p e s m args below meth c s₁ Bd hml0 hP hK
  obtain ⟨rfl, hZ, hh⟩ := hP
  have hx := Bd.exec
  have hby := Bd.bytes
  have hml : c.maxLocals = 1 := hml0
  have hown : s.vm.findClass "com/example/libfiat/libfiat/idl/IdlType$Category" = some m.cls := findClass_of_methodNamed Bd.named
  have hnm := (name_of_methodNamed Bd.named Bd.method).1
  have X0 : Stand p l e ({ frames := 0, cells := 0, slots := 0, locals := 0 } : Room) s m #[(.ref a1)] below meth c s₁ [] 0 0 := Stand.of_body Bd
  have e0 : s₁.heap = h0 := by rw [← hh, Bd.state]; rfl
  have N0 := Fr.nil n0
  have pre0 : ∀ t, Steps p.tables e below (s₁.setTop (mkF m 0 #[.val (.ref a1)] [])) t → Steps p.tables e below (s₁.setTop (entryFrame m #[(.ref a1)] 1)) t := fun t k => castTop (ef_1 m a1) k
  obtain ⟨T1, X1, e1, st1⟩ := getS2 X0 hx hZ hown (host := "") (Or.inl (hw _ (List.mem_of_getElem? (i := 13) rfl))) Via.refl e0 S_INTEGER_ (g := (mkF m 1 #[.val (.ref a1)] [(.ref a1)])) rfl (hb hby d_prog_37_method_4_code_1)
  obtain ⟨T2, X2, e2, st2⟩ := getS2 X1 hx hZ hown (host := "") (Or.inl (hw _ (List.mem_of_getElem? (i := 19) rfl))) Via.refl e1 S_CHARACTER_ (g := (mkF m 8 #[.val (.ref a1)] [(.ref a1)])) rfl (hb hby d_prog_37_method_4_code_8)
  obtain ⟨T3, X3, e3, st3⟩ := getS2 X2 hx hZ hown (host := "") (Or.inl (hw _ (List.mem_of_getElem? (i := 22) rfl))) Via.refl e2 S_WIDE_CHARACTER_ (g := (mkF m 15 #[.val (.ref a1)] [(.ref a1)])) rfl (hb hby d_prog_37_method_4_code_15)
  obtain ⟨T4, X4, e4, st4⟩ := getS2 X3 hx hZ hown (host := "") (Or.inl (hw _ (List.mem_of_getElem? (i := 24) rfl))) Via.refl e3 S_BOOLEAN_ (g := (mkF m 22 #[.val (.ref a1)] [(.ref a1)])) rfl (hb hby d_prog_37_method_4_code_22)
  obtain ⟨fs, hr, hrun, hended, hW, hsame⟩ := X4.leave (v := some (.int (1 : Int32))) (fun h => by rw [Bd.returns] at h; cases h)
  refine ⟨_, _, pre0 _ ?_, hrun, hended, _, _, rfl, ?_, ⟨_, rfl⟩, hW, hsame.mono (by decide) (by decide)⟩
  · show Steps p.tables e below (s₁.setTop (mkF m 0 #[.val (.ref a1)] [])) _
    refine XS.aloadN X0.here hx rfl (hb hby d_prog_37_method_4_code_0) rfl rfl ?_
    show Steps p.tables e below (s₁.setTop (mkF m 1 #[.val (.ref a1)] [(.ref a1)])) _
    refine st1 _ ?_
    show Steps p.tables e below (T1.setTop (mkF m 4 #[.val (.ref a1)] [(.ref c0), (.ref a1)])) _
    refine Jvm.RoadKit.acmp (g := (mkF m 4 #[.val (.ref a1)] [(.ref c0), (.ref a1)])) X1 hx rfl rfl rfl (pc0 := 4) (pc' := 7) (same := false) rfl (hb hby d_prog_37_method_4_code_4) rfl (decide_eq_false fun q => hc4 (Value.ref.inj q)) (by decide) (by decide) ?_
    show Steps p.tables e below (T1.setTop (mkF m 7 #[.val (.ref a1)] [])) _
    refine XS.aloadN X1.here hx rfl (hb hby d_prog_37_method_4_code_7) rfl rfl ?_
    show Steps p.tables e below (T1.setTop (mkF m 8 #[.val (.ref a1)] [(.ref a1)])) _
    refine st2 _ ?_
    show Steps p.tables e below (T2.setTop (mkF m 11 #[.val (.ref a1)] [(.ref c3), (.ref a1)])) _
    refine Jvm.RoadKit.acmp (g := (mkF m 11 #[.val (.ref a1)] [(.ref c3), (.ref a1)])) X2 hx rfl rfl rfl (pc0 := 11) (pc' := 14) (same := false) rfl (hb hby d_prog_37_method_4_code_11) rfl (decide_eq_false fun q => hc11 (Value.ref.inj q)) (by decide) (by decide) ?_
    show Steps p.tables e below (T2.setTop (mkF m 14 #[.val (.ref a1)] [])) _
    refine XS.aloadN X2.here hx rfl (hb hby d_prog_37_method_4_code_14) rfl rfl ?_
    show Steps p.tables e below (T2.setTop (mkF m 15 #[.val (.ref a1)] [(.ref a1)])) _
    refine st3 _ ?_
    show Steps p.tables e below (T3.setTop (mkF m 18 #[.val (.ref a1)] [(.ref c4), (.ref a1)])) _
    refine Jvm.RoadKit.acmp (g := (mkF m 18 #[.val (.ref a1)] [(.ref c4), (.ref a1)])) X3 hx rfl rfl rfl (pc0 := 18) (pc' := 21) (same := false) rfl (hb hby d_prog_37_method_4_code_18) rfl (decide_eq_false fun q => hc18 (Value.ref.inj q)) (by decide) (by decide) ?_
    show Steps p.tables e below (T3.setTop (mkF m 21 #[.val (.ref a1)] [])) _
    refine XS.aloadN X3.here hx rfl (hb hby d_prog_37_method_4_code_21) rfl rfl ?_
    show Steps p.tables e below (T3.setTop (mkF m 22 #[.val (.ref a1)] [(.ref a1)])) _
    refine st4 _ ?_
    show Steps p.tables e below (T4.setTop (mkF m 25 #[.val (.ref a1)] [(.ref c5), (.ref a1)])) _
    refine Jvm.RoadKit.acmp (g := (mkF m 25 #[.val (.ref a1)] [(.ref c5), (.ref a1)])) X4 hx rfl rfl rfl (pc0 := 25) (pc' := 35) (same := true) rfl (hb hby d_prog_37_method_4_code_25) rfl (decide_eq_true (congrArg Value.ref hc25)) (by decide) (by decide) ?_
    show Steps p.tables e below (T4.setTop (mkF m 35 #[.val (.ref a1)] [])) _
    refine XS.iconst X4.here hx rfl (hb hby d_prog_37_method_4_code_35) ?_
    show Steps p.tables e below (T4.setTop (mkF m 36 #[.val (.ref a1)] [(.int (1 : Int32))])) _
    refine XS.goto X4.here hx rfl (pc0 := 36) (pc' := 40) rfl (hb hby d_prog_37_method_4_code_36) (by decide) (by decide) ?_
    show Steps p.tables e below (T4.setTop (mkF m 40 #[.val (.ref a1)] [(.int (1 : Int32))])) _
    exact retN X4 hx (t := .boolean) Bd.returns (by simp) (hb hby d_prog_37_method_4_code_40) hr
  · show Q_rmD Z a1 c0 c3 c4 c5 c8 h0 n0 _ T4.heap _
    rw [e4]
    exact ⟨by rw [hres], N0, rfl⟩
set_option maxRecDepth 65536 in
set_option maxHeartbeats 40000000 in
theorem rmD_fffft (l : Launch) (Z : State) (a0 : Array Value) (hw : ∀ d ∈ tables_1, d.before a0 Z = true) (ws : List Jvm.Cond) (a1 : Addr) (c0 : Addr) (c3 : Addr) (c4 : Addr) (c5 : Addr) (c8 : Addr) (h0 : Heap) (n0 : Nat) (Z0 : n0 ≤ h0.size) (S_INTEGER_ : Sta Z h0 "com/example/libfiat/libfiat/idl/IdlType$Category" "INTEGER" "Lcom/example/libfiat/libfiat/idl/IdlType$Category;" (.ref c0)) (S_CHARACTER_ : Sta Z h0 "com/example/libfiat/libfiat/idl/IdlType$Category" "CHARACTER" "Lcom/example/libfiat/libfiat/idl/IdlType$Category;" (.ref c3)) (S_WIDE_CHARACTER_ : Sta Z h0 "com/example/libfiat/libfiat/idl/IdlType$Category" "WIDE_CHARACTER" "Lcom/example/libfiat/libfiat/idl/IdlType$Category;" (.ref c4)) (S_BOOLEAN_ : Sta Z h0 "com/example/libfiat/libfiat/idl/IdlType$Category" "BOOLEAN" "Lcom/example/libfiat/libfiat/idl/IdlType$Category;" (.ref c5)) (S_ENUMERATION_ : Sta Z h0 "com/example/libfiat/libfiat/idl/IdlType$Category" "ENUMERATION" "Lcom/example/libfiat/libfiat/idl/IdlType$Category;" (.ref c8)) (hc4 : ¬ (a1 = c0)) (hc11 : ¬ (a1 = c3)) (hc18 : ¬ (a1 = c4)) (hc25 : ¬ (a1 = c5)) (hc32 : a1 = c8) (hres : (own_disc a1 c0 c3 c4 c5 c8) = (1 : Int32)) :
    MetFree l (⟨"com/example/libfiat/libfiat/idl/IdlType$Category", "discriminates", "()Z"⟩ : MethodName) (head1 (Jvm.Cond.code (⟨"com/example/libfiat/libfiat/idl/IdlType$Category", "discriminates", "()Z"⟩ : MethodName) prog_37_method_4_code 1 (some .boolean) :: ws) ({ frames := 0, cells := 0, slots := 0, locals := 0 } : Room)) (fun a U => a = #[(.ref a1)] ∧ Z.Warmed39 U.vm ∧ U.heap = h0) (fun _ _ _ _ _ => True) (fun _ U o U' => ∃ v L, o = .returned v ∧ Q_rmD Z a1 c0 c3 c4 c5 c8 h0 n0 v U'.heap L ∧ FrameEnd U o U' L ({ frames := 0, cells := 0, slots := 0, locals := 0 } : Room).cells ({ frames := 0, cells := 0, slots := 0, locals := 0 } : Room).slots) := by
  refine MetFree.of_bodySF (plainFor_of_name pn_1) hisR ?_
  intro p e s m args below meth c s₁ Bd hml0 hP hK
  obtain ⟨rfl, hZ, hh⟩ := hP
  have hx := Bd.exec
  have hby := Bd.bytes
  have hml : c.maxLocals = 1 := hml0
  have hown : s.vm.findClass "com/example/libfiat/libfiat/idl/IdlType$Category" = some m.cls := findClass_of_methodNamed Bd.named
  have hnm := (name_of_methodNamed Bd.named Bd.method).1
  have X0 : Stand p l e ({ frames := 0, cells := 0, slots := 0, locals := 0 } : Room) s m #[(.ref a1)] below meth c s₁ [] 0 0 := Stand.of_body Bd
  have e0 : s₁.heap = h0 := by rw [← hh, Bd.state]; rfl
  have N0 := Fr.nil n0
  have pre0 : ∀ t, Steps p.tables e below (s₁.setTop (mkF m 0 #[.val (.ref a1)] [])) t → Steps p.tables e below (s₁.setTop (entryFrame m #[(.ref a1)] 1)) t := fun t k => castTop (ef_1 m a1) k
  obtain ⟨T1, X1, e1, st1⟩ := getS2 X0 hx hZ hown (host := "") (Or.inl (hw _ (List.mem_of_getElem? (i := 13) rfl))) Via.refl e0 S_INTEGER_ (g := (mkF m 1 #[.val (.ref a1)] [(.ref a1)])) rfl (hb hby d_prog_37_method_4_code_1)
  obtain ⟨T2, X2, e2, st2⟩ := getS2 X1 hx hZ hown (host := "") (Or.inl (hw _ (List.mem_of_getElem? (i := 19) rfl))) Via.refl e1 S_CHARACTER_ (g := (mkF m 8 #[.val (.ref a1)] [(.ref a1)])) rfl (hb hby d_prog_37_method_4_code_8)
  obtain ⟨T3, X3, e3, st3⟩ := getS2 X2 hx hZ hown (host := "") (Or.inl (hw _ (List.mem_of_getElem? (i := 22) rfl))) Via.refl e2 S_WIDE_CHARACTER_ (g := (mkF m 15 #[.val (.ref a1)] [(.ref a1)])) rfl (hb hby d_prog_37_method_4_code_15)
  obtain ⟨T4, X4, e4, st4⟩ := getS2 X3 hx hZ hown (host := "") (Or.inl (hw _ (List.mem_of_getElem? (i := 24) rfl))) Via.refl e3 S_BOOLEAN_ (g := (mkF m 22 #[.val (.ref a1)] [(.ref a1)])) rfl (hb hby d_prog_37_method_4_code_22)
  obtain ⟨T5, X5, e5, st5⟩ := getS2 X4 hx hZ hown (host := "") (Or.inl (hw _ (List.mem_of_getElem? (i := 26) rfl))) Via.refl e4 S_ENUMERATION_ (g := (mkF m 29 #[.val (.ref a1)] [(.ref a1)])) rfl (hb hby d_prog_37_method_4_code_29)
  obtain ⟨fs, hr, hrun, hended, hW, hsame⟩ := X5.leave (v := some (.int (1 : Int32))) (fun h => by rw [Bd.returns] at h; cases h)
  refine ⟨_, _, pre0 _ ?_, hrun, hended, _, _, rfl, ?_, ⟨_, rfl⟩, hW, hsame.mono (by decide) (by decide)⟩
  · show Steps p.tables e below (s₁.setTop (mkF m 0 #[.val (.ref a1)] [])) _
    refine XS.aloadN X0.here hx rfl (hb hby d_prog_37_method_4_code_0) rfl rfl ?_
    show Steps p.tables e below (s₁.setTop (mkF m 1 #[.val (.ref a1)] [(.ref a1)])) _
    refine st1 _ ?_
    show Steps p.tables e below (T1.setTop (mkF m 4 #[.val (.ref a1)] [(.ref c0), (.ref a1)])) _
    refine Jvm.RoadKit.acmp (g := (mkF m 4 #[.val (.ref a1)] [(.ref c0), (.ref a1)])) X1 hx rfl rfl rfl (pc0 := 4) (pc' := 7) (same := false) rfl (hb hby d_prog_37_method_4_code_4) rfl (decide_eq_false fun q => hc4 (Value.ref.inj q)) (by decide) (by decide) ?_
    show Steps p.tables e below (T1.setTop (mkF m 7 #[.val (.ref a1)] [])) _
    refine XS.aloadN X1.here hx rfl (hb hby d_prog_37_method_4_code_7) rfl rfl ?_
    show Steps p.tables e below (T1.setTop (mkF m 8 #[.val (.ref a1)] [(.ref a1)])) _
    refine st2 _ ?_
    show Steps p.tables e below (T2.setTop (mkF m 11 #[.val (.ref a1)] [(.ref c3), (.ref a1)])) _
    refine Jvm.RoadKit.acmp (g := (mkF m 11 #[.val (.ref a1)] [(.ref c3), (.ref a1)])) X2 hx rfl rfl rfl (pc0 := 11) (pc' := 14) (same := false) rfl (hb hby d_prog_37_method_4_code_11) rfl (decide_eq_false fun q => hc11 (Value.ref.inj q)) (by decide) (by decide) ?_
    show Steps p.tables e below (T2.setTop (mkF m 14 #[.val (.ref a1)] [])) _
    refine XS.aloadN X2.here hx rfl (hb hby d_prog_37_method_4_code_14) rfl rfl ?_
    show Steps p.tables e below (T2.setTop (mkF m 15 #[.val (.ref a1)] [(.ref a1)])) _
    refine st3 _ ?_
    show Steps p.tables e below (T3.setTop (mkF m 18 #[.val (.ref a1)] [(.ref c4), (.ref a1)])) _
    refine Jvm.RoadKit.acmp (g := (mkF m 18 #[.val (.ref a1)] [(.ref c4), (.ref a1)])) X3 hx rfl rfl rfl (pc0 := 18) (pc' := 21) (same := false) rfl (hb hby d_prog_37_method_4_code_18) rfl (decide_eq_false fun q => hc18 (Value.ref.inj q)) (by decide) (by decide) ?_
    show Steps p.tables e below (T3.setTop (mkF m 21 #[.val (.ref a1)] [])) _
    refine XS.aloadN X3.here hx rfl (hb hby d_prog_37_method_4_code_21) rfl rfl ?_
    show Steps p.tables e below (T3.setTop (mkF m 22 #[.val (.ref a1)] [(.ref a1)])) _
    refine st4 _ ?_
    show Steps p.tables e below (T4.setTop (mkF m 25 #[.val (.ref a1)] [(.ref c5), (.ref a1)])) _
    refine Jvm.RoadKit.acmp (g := (mkF m 25 #[.val (.ref a1)] [(.ref c5), (.ref a1)])) X4 hx rfl rfl rfl (pc0 := 25) (pc' := 28) (same := false) rfl (hb hby d_prog_37_method_4_code_25) rfl (decide_eq_false fun q => hc25 (Value.ref.inj q)) (by decide) (by decide) ?_
    show Steps p.tables e below (T4.setTop (mkF m 28 #[.val (.ref a1)] [])) _
    refine XS.aloadN X4.here hx rfl (hb hby d_prog_37_method_4_code_28) rfl rfl ?_
    show Steps p.tables e below (T4.setTop (mkF m 29 #[.val (.ref a1)] [(.ref a1)])) _
    refine st5 _ ?_
    show Steps p.tables e below (T5.setTop (mkF m 32 #[.val (.ref a1)] [(.ref c8), (.ref a1)])) _
    refine Jvm.RoadKit.acmp (g := (mkF m 32 #[.val (.ref a1)] [(.ref c8), (.ref a1)])) X5 hx rfl rfl rfl (pc0 := 32) (pc' := 35) (same := true) rfl (hb hby d_prog_37_method_4_code_32) rfl (decide_eq_true (congrArg Value.ref hc32)) (by decide) (by decide) ?_
    show Steps p.tables e below (T5.setTop (mkF m 35 #[.val (.ref a1)] [])) _
    refine XS.iconst X5.here hx rfl (hb hby d_prog_37_method_4_code_35) ?_
    show Steps p.tables e below (T5.setTop (mkF m 36 #[.val (.ref a1)] [(.int (1 : Int32))])) _
    refine XS.goto X5.here hx rfl (pc0 := 36) (pc' := 40) rfl (hb hby d_prog_37_method_4_code_36) (by decide) (by decide) ?_
    show Steps p.tables e below (T5.setTop (mkF m 40 #[.val (.ref a1)] [(.int (1 : Int32))])) _
    exact retN X5 hx (t := .boolean) Bd.returns (by simp) (hb hby d_prog_37_method_4_code_40) hr
  · show Q_rmD Z a1 c0 c3 c4 c5 c8 h0 n0 _ T5.heap _
    rw [e5]
    exact ⟨by rw [hres], N0, rfl⟩
set_option maxRecDepth 65536 in
set_option maxHeartbeats 40000000 in
theorem rmD_fffff (l : Launch) (Z : State) (a0 : Array Value) (hw : ∀ d ∈ tables_1, d.before a0 Z = true) (ws : List Jvm.Cond) (a1 : Addr) (c0 : Addr) (c3 : Addr) (c4 : Addr) (c5 : Addr) (c8 : Addr) (h0 : Heap) (n0 : Nat) (Z0 : n0 ≤ h0.size) (S_INTEGER_ : Sta Z h0 "com/example/libfiat/libfiat/idl/IdlType$Category" "INTEGER" "Lcom/example/libfiat/libfiat/idl/IdlType$Category;" (.ref c0)) (S_CHARACTER_ : Sta Z h0 "com/example/libfiat/libfiat/idl/IdlType$Category" "CHARACTER" "Lcom/example/libfiat/libfiat/idl/IdlType$Category;" (.ref c3)) (S_WIDE_CHARACTER_ : Sta Z h0 "com/example/libfiat/libfiat/idl/IdlType$Category" "WIDE_CHARACTER" "Lcom/example/libfiat/libfiat/idl/IdlType$Category;" (.ref c4)) (S_BOOLEAN_ : Sta Z h0 "com/example/libfiat/libfiat/idl/IdlType$Category" "BOOLEAN" "Lcom/example/libfiat/libfiat/idl/IdlType$Category;" (.ref c5)) (S_ENUMERATION_ : Sta Z h0 "com/example/libfiat/libfiat/idl/IdlType$Category" "ENUMERATION" "Lcom/example/libfiat/libfiat/idl/IdlType$Category;" (.ref c8)) (hc4 : ¬ (a1 = c0)) (hc11 : ¬ (a1 = c3)) (hc18 : ¬ (a1 = c4)) (hc25 : ¬ (a1 = c5)) (hc32 : ¬ (a1 = c8)) (hres : (own_disc a1 c0 c3 c4 c5 c8) = (0 : Int32)) :
    MetFree l (⟨"com/example/libfiat/libfiat/idl/IdlType$Category", "discriminates", "()Z"⟩ : MethodName) (head1 (Jvm.Cond.code (⟨"com/example/libfiat/libfiat/idl/IdlType$Category", "discriminates", "()Z"⟩ : MethodName) prog_37_method_4_code 1 (some .boolean) :: ws) ({ frames := 0, cells := 0, slots := 0, locals := 0 } : Room)) (fun a U => a = #[(.ref a1)] ∧ Z.Warmed39 U.vm ∧ U.heap = h0) (fun _ _ _ _ _ => True) (fun _ U o U' => ∃ v L, o = .returned v ∧ Q_rmD Z a1 c0 c3 c4 c5 c8 h0 n0 v U'.heap L ∧ FrameEnd U o U' L ({ frames := 0, cells := 0, slots := 0, locals := 0 } : Room).cells ({ frames := 0, cells := 0, slots := 0, locals := 0 } : Room).slots) := by
  refine MetFree.of_bodySF (plainFor_of_name pn_1) hisR ?_
  intro p e s m args below meth c s₁ Bd hml0 hP hK
  obtain ⟨rfl, hZ, hh⟩ := hP
  have hx := Bd.exec
  have hby := Bd.bytes
  have hml : c.maxLocals = 1 := hml0
  have hown : s.vm.findClass "com/example/libfiat/libfiat/idl/IdlType$Category" = some m.cls := findClass_of_methodNamed Bd.named
  have hnm := (name_of_methodNamed Bd.named Bd.method).1
  have X0 : Stand p l e ({ frames := 0, cells := 0, slots := 0, locals := 0 } : Room) s m #[(.ref a1)] below meth c s₁ [] 0 0 := Stand.of_body Bd
  have e0 : s₁.heap = h0 := by rw [← hh, Bd.state]; rfl
  have N0 := Fr.nil n0
  have pre0 : ∀ t, Steps p.tables e below (s₁.setTop (mkF m 0 #[.val (.ref a1)] [])) t → Steps p.tables e below (s₁.setTop (entryFrame m #[(.ref a1)] 1)) t := fun t k => castTop (ef_1 m a1) k
  obtain ⟨T1, X1, e1, st1⟩ := getS2 X0 hx hZ hown (host := "") (Or.inl (hw _ (List.mem_of_getElem? (i := 13) rfl))) Via.refl e0 S_INTEGER_ (g := (mkF m 1 #[.val (.ref a1)] [(.ref a1)])) rfl (hb hby d_prog_37_method_4_code_1)
  obtain ⟨T2, X2, e2, st2⟩ := getS2 X1 hx hZ hown (host := "") (Or.inl (hw _ (List.mem_of_getElem? (i := 19) rfl))) Via.refl e1 S_CHARACTER_ (g := (mkF m 8 #[.val (.ref a1)] [(.ref a1)])) rfl (hb hby d_prog_37_method_4_code_8)
  obtain ⟨T3, X3, e3, st3⟩ := getS2 X2 hx hZ hown (host := "") (Or.inl (hw _ (List.mem_of_getElem? (i := 22) rfl))) Via.refl e2 S_WIDE_CHARACTER_ (g := (mkF m 15 #[.val (.ref a1)] [(.ref a1)])) rfl (hb hby d_prog_37_method_4_code_15)
  obtain ⟨T4, X4, e4, st4⟩ := getS2 X3 hx hZ hown (host := "") (Or.inl (hw _ (List.mem_of_getElem? (i := 24) rfl))) Via.refl e3 S_BOOLEAN_ (g := (mkF m 22 #[.val (.ref a1)] [(.ref a1)])) rfl (hb hby d_prog_37_method_4_code_22)
  obtain ⟨T5, X5, e5, st5⟩ := getS2 X4 hx hZ hown (host := "") (Or.inl (hw _ (List.mem_of_getElem? (i := 26) rfl))) Via.refl e4 S_ENUMERATION_ (g := (mkF m 29 #[.val (.ref a1)] [(.ref a1)])) rfl (hb hby d_prog_37_method_4_code_29)
  obtain ⟨fs, hr, hrun, hended, hW, hsame⟩ := X5.leave (v := some (.int (0 : Int32))) (fun h => by rw [Bd.returns] at h; cases h)
  refine ⟨_, _, pre0 _ ?_, hrun, hended, _, _, rfl, ?_, ⟨_, rfl⟩, hW, hsame.mono (by decide) (by decide)⟩
  · show Steps p.tables e below (s₁.setTop (mkF m 0 #[.val (.ref a1)] [])) _
    refine XS.aloadN X0.here hx rfl (hb hby d_prog_37_method_4_code_0) rfl rfl ?_
    show Steps p.tables e below (s₁.setTop (mkF m 1 #[.val (.ref a1)] [(.ref a1)])) _
    refine st1 _ ?_
    show Steps p.tables e below (T1.setTop (mkF m 4 #[.val (.ref a1)] [(.ref c0), (.ref a1)])) _
    refine Jvm.RoadKit.acmp (g := (mkF m 4 #[.val (.ref a1)] [(.ref c0), (.ref a1)])) X1 hx rfl rfl rfl (pc0 := 4) (pc' := 7) (same := false) rfl (hb hby d_prog_37_method_4_code_4) rfl (decide_eq_false fun q => hc4 (Value.ref.inj q)) (by decide) (by decide) ?_
    show Steps p.tables e below (T1.setTop (mkF m 7 #[.val (.ref a1)] [])) _
    refine XS.aloadN X1.here hx rfl (hb hby d_prog_37_method_4_code_7) rfl rfl ?_
    show Steps p.tables e below (T1.setTop (mkF m 8 #[.val (.ref a1)] [(.ref a1)])) _
    refine st2 _ ?_
    show Steps p.tables e below (T2.setTop (mkF m 11 #[.val (.ref a1)] [(.ref c3), (.ref a1)])) _
    refine Jvm.RoadKit.acmp (g := (mkF m 11 #[.val (.ref a1)] [(.ref c3), (.ref a1)])) X2 hx rfl rfl rfl (pc0 := 11) (pc' := 14) (same := false) rfl (hb hby d_prog_37_method_4_code_11) rfl (decide_eq_false fun q => hc11 (Value.ref.inj q)) (by decide) (by decide) ?_
    show Steps p.tables e below (T2.setTop (mkF m 14 #[.val (.ref a1)] [])) _
    refine XS.aloadN X2.here hx rfl (hb hby d_prog_37_method_4_code_14) rfl rfl ?_
    show Steps p.tables e below (T2.setTop (mkF m 15 #[.val (.ref a1)] [(.ref a1)])) _
    refine st3 _ ?_
    show Steps p.tables e below (T3.setTop (mkF m 18 #[.val (.ref a1)] [(.ref c4), (.ref a1)])) _
    refine Jvm.RoadKit.acmp (g := (mkF m 18 #[.val (.ref a1)] [(.ref c4), (.ref a1)])) X3 hx rfl rfl rfl (pc0 := 18) (pc' := 21) (same := false) rfl (hb hby d_prog_37_method_4_code_18) rfl (decide_eq_false fun q => hc18 (Value.ref.inj q)) (by decide) (by decide) ?_
    show Steps p.tables e below (T3.setTop (mkF m 21 #[.val (.ref a1)] [])) _
    refine XS.aloadN X3.here hx rfl (hb hby d_prog_37_method_4_code_21) rfl rfl ?_
    show Steps p.tables e below (T3.setTop (mkF m 22 #[.val (.ref a1)] [(.ref a1)])) _
    refine st4 _ ?_
    show Steps p.tables e below (T4.setTop (mkF m 25 #[.val (.ref a1)] [(.ref c5), (.ref a1)])) _
    refine Jvm.RoadKit.acmp (g := (mkF m 25 #[.val (.ref a1)] [(.ref c5), (.ref a1)])) X4 hx rfl rfl rfl (pc0 := 25) (pc' := 28) (same := false) rfl (hb hby d_prog_37_method_4_code_25) rfl (decide_eq_false fun q => hc25 (Value.ref.inj q)) (by decide) (by decide) ?_
    show Steps p.tables e below (T4.setTop (mkF m 28 #[.val (.ref a1)] [])) _
    refine XS.aloadN X4.here hx rfl (hb hby d_prog_37_method_4_code_28) rfl rfl ?_
    show Steps p.tables e below (T4.setTop (mkF m 29 #[.val (.ref a1)] [(.ref a1)])) _
    refine st5 _ ?_
    show Steps p.tables e below (T5.setTop (mkF m 32 #[.val (.ref a1)] [(.ref c8), (.ref a1)])) _
    refine Jvm.RoadKit.acmp (g := (mkF m 32 #[.val (.ref a1)] [(.ref c8), (.ref a1)])) X5 hx rfl rfl rfl (pc0 := 32) (pc' := 39) (same := false) rfl (hb hby d_prog_37_method_4_code_32) rfl (decide_eq_false fun q => hc32 (Value.ref.inj q)) (by decide) (by decide) ?_
    show Steps p.tables e below (T5.setTop (mkF m 39 #[.val (.ref a1)] [])) _
    refine XS.iconst X5.here hx rfl (hb hby d_prog_37_method_4_code_39) ?_
    show Steps p.tables e below (T5.setTop (mkF m 40 #[.val (.ref a1)] [(.int (0 : Int32))])) _
    exact retN X5 hx (t := .boolean) Bd.returns (by simp) (hb hby d_prog_37_method_4_code_40) hr
  · show Q_rmD Z a1 c0 c3 c4 c5 c8 h0 n0 _ T5.heap _
    rw [e5]
    exact ⟨by rw [hres], N0, rfl⟩
theorem rmD (l : Launch) (Z : State) (a0 : Array Value) (hw : ∀ d ∈ tables_1, d.before a0 Z = true) (ws : List Jvm.Cond) (a1 : Addr) (c0 : Addr) (c3 : Addr) (c4 : Addr) (c5 : Addr) (c8 : Addr) (h0 : Heap) (n0 : Nat) (Z0 : n0 ≤ h0.size) (S_INTEGER_ : Sta Z h0 "com/example/libfiat/libfiat/idl/IdlType$Category" "INTEGER" "Lcom/example/libfiat/libfiat/idl/IdlType$Category;" (.ref c0)) (S_CHARACTER_ : Sta Z h0 "com/example/libfiat/libfiat/idl/IdlType$Category" "CHARACTER" "Lcom/example/libfiat/libfiat/idl/IdlType$Category;" (.ref c3)) (S_WIDE_CHARACTER_ : Sta Z h0 "com/example/libfiat/libfiat/idl/IdlType$Category" "WIDE_CHARACTER" "Lcom/example/libfiat/libfiat/idl/IdlType$Category;" (.ref c4)) (S_BOOLEAN_ : Sta Z h0 "com/example/libfiat/libfiat/idl/IdlType$Category" "BOOLEAN" "Lcom/example/libfiat/libfiat/idl/IdlType$Category;" (.ref c5)) (S_ENUMERATION_ : Sta Z h0 "com/example/libfiat/libfiat/idl/IdlType$Category" "ENUMERATION" "Lcom/example/libfiat/libfiat/idl/IdlType$Category;" (.ref c8)) :
    MetFree l (⟨"com/example/libfiat/libfiat/idl/IdlType$Category", "discriminates", "()Z"⟩ : MethodName) (head1 (Jvm.Cond.code (⟨"com/example/libfiat/libfiat/idl/IdlType$Category", "discriminates", "()Z"⟩ : MethodName) prog_37_method_4_code 1 (some .boolean) :: ws) ({ frames := 0, cells := 0, slots := 0, locals := 0 } : Room)) (fun a U => a = #[(.ref a1)] ∧ Z.Warmed39 U.vm ∧ U.heap = h0) (fun _ _ _ _ _ => True) (fun _ U o U' => ∃ v L, o = .returned v ∧ Q_rmD Z a1 c0 c3 c4 c5 c8 h0 n0 v U'.heap L ∧ FrameEnd U o U' L ({ frames := 0, cells := 0, slots := 0, locals := 0 } : Room).cells ({ frames := 0, cells := 0, slots := 0, locals := 0 } : Room).slots) := by
  by_cases hc4 : a1 = c0
  · skip
    exact rmD_t l Z a0 hw ws a1 c0 c3 c4 c5 c8 h0 n0 Z0 S_INTEGER_ S_CHARACTER_ S_WIDE_CHARACTER_ S_BOOLEAN_ S_ENUMERATION_ hc4 (by simp only [own_disc, if_pos hc4])
  · skip
    by_cases hc11 : a1 = c3
    · skip
      exact rmD_ft l Z a0 hw ws a1 c0 c3 c4 c5 c8 h0 n0 Z0 S_INTEGER_ S_CHARACTER_ S_WIDE_CHARACTER_ S_BOOLEAN_ S_ENUMERATION_ hc4 hc11 (by simp only [own_disc, if_neg hc4, if_pos hc11])
    · skip
      by_cases hc18 : a1 = c4
      · skip
        exact rmD_fft l Z a0 hw ws a1 c0 c3 c4 c5 c8 h0 n0 Z0 S_INTEGER_ S_CHARACTER_ S_WIDE_CHARACTER_ S_BOOLEAN_ S_ENUMERATION_ hc4 hc11 hc18 (by simp only [own_disc, if_neg hc4, if_neg hc11, if_pos hc18])
      · skip
        by_cases hc25 : a1 = c5
        · skip
          exact rmD_ffft l Z a0 hw ws a1 c0 c3 c4 c5 c8 h0 n0 Z0 S_INTEGER_ S_CHARACTER_ S_WIDE_CHARACTER_ S_BOOLEAN_ S_ENUMERATION_ hc4 hc11 hc18 hc25 (by simp only [own_disc, if_neg hc4, if_neg hc11, if_neg hc18, if_pos hc25])
        · skip
          by_cases hc32 : a1 = c8
          · skip
            exact rmD_fffft l Z a0 hw ws a1 c0 c3 c4 c5 c8 h0 n0 Z0 S_INTEGER_ S_CHARACTER_ S_WIDE_CHARACTER_ S_BOOLEAN_ S_ENUMERATION_ hc4 hc11 hc18 hc25 hc32 (by simp only [own_disc, if_neg hc4, if_neg hc11, if_neg hc18, if_neg hc25, if_pos hc32])
          · skip
            exact rmD_fffff l Z a0 hw ws a1 c0 c3 c4 c5 c8 h0 n0 Z0 S_INTEGER_ S_CHARACTER_ S_WIDE_CHARACTER_ S_BOOLEAN_ S_ENUMERATION_ hc4 hc11 hc18 hc25 hc32 (by simp only [own_disc, if_neg hc4, if_neg hc11, if_neg hc18, if_neg hc25, if_neg hc32])
theorem d_method_3_code_0 : decode method_3_code 0 = .ok (.iload_n 0, 1) := by decide +kernel
theorem d_method_3_code_1 : decode method_3_code 1 = .ok (.ifCond .ne 5, 3) := by decide +kernel
theorem d_method_3_code_4 : decode method_3_code 4 = .ok (.iconst 1, 1) := by decide +kernel
theorem d_method_3_code_5 : decode method_3_code 5 = .ok (.ireturn, 1) := by decide +kernel
theorem d_method_3_code_6 : decode method_3_code 6 = .ok (.iload_n 0, 1) := by decide +kernel
theorem d_method_3_code_7 : decode method_3_code 7 = .ok (.iconst 1, 1) := by decide +kernel
theorem d_method_3_code_8 : decode method_3_code 8 = .ok (.if_icmp .ne 5, 3) := by decide +kernel
theorem d_method_3_code_11 : decode method_3_code 11 = .ok (.iconst 0, 1) := by decide +kernel
theorem d_method_3_code_12 : decode method_3_code 12 = .ok (.ireturn, 1) := by decide +kernel
theorem d_method_3_code_13 : decode method_3_code 13 = .ok (.iload_n 0, 1) := by decide +kernel
theorem d_method_3_code_14 : decode method_3_code 14 = .ok (.iconst 2, 1) := by decide +kernel
theorem d_method_3_code_15 : decode method_3_code 15 = .ok (.if_icmp .ne 5, 3) := by decide +kernel
theorem d_method_3_code_18 : decode method_3_code 18 = .ok (.iconst 0, 1) := by decide +kernel
theorem d_method_3_code_19 : decode method_3_code 19 = .ok (.ireturn, 1) := by decide +kernel
theorem d_method_3_code_20 : decode method_3_code 20 = .ok (.iload_n 0, 1) := by decide +kernel
theorem d_method_3_code_21 : decode method_3_code 21 = .ok (.iconst 3, 1) := by decide +kernel
theorem d_method_3_code_22 : decode method_3_code 22 = .ok (.if_icmp .ne 5, 3) := by decide +kernel
theorem d_method_3_code_25 : decode method_3_code 25 = .ok (.iconst 1, 1) := by decide +kernel
theorem d_method_3_code_26 : decode method_3_code 26 = .ok (.ireturn, 1) := by decide +kernel
theorem d_method_3_code_27 : decode method_3_code 27 = .ok (.iload_n 0, 1) := by decide +kernel
theorem d_method_3_code_28 : decode method_3_code 28 = .ok (.iconst 4, 1) := by decide +kernel
theorem d_method_3_code_29 : decode method_3_code 29 = .ok (.if_icmp .ne 5, 3) := by decide +kernel
theorem d_method_3_code_32 : decode method_3_code 32 = .ok (.iconst 1, 1) := by decide +kernel
theorem d_method_3_code_33 : decode method_3_code 33 = .ok (.ireturn, 1) := by decide +kernel
theorem d_method_3_code_34 : decode method_3_code 34 = .ok (.iload_n 0, 1) := by decide +kernel
theorem d_method_3_code_35 : decode method_3_code 35 = .ok (.iconst 5, 1) := by decide +kernel
theorem d_method_3_code_36 : decode method_3_code 36 = .ok (.if_icmp .ne 5, 3) := by decide +kernel
theorem d_method_3_code_39 : decode method_3_code 39 = .ok (.iconst 1, 1) := by decide +kernel
theorem d_method_3_code_40 : decode method_3_code 40 = .ok (.ireturn, 1) := by decide +kernel
theorem d_method_3_code_41 : decode method_3_code 41 = .ok (.iload_n 0, 1) := by decide +kernel
theorem d_method_3_code_42 : decode method_3_code 42 = .ok (.bipush 6, 2) := by decide +kernel
theorem d_method_3_code_44 : decode method_3_code 44 = .ok (.if_icmp .ne 5, 3) := by decide +kernel
theorem d_method_3_code_47 : decode method_3_code 47 = .ok (.iconst 0, 1) := by decide +kernel
theorem d_method_3_code_48 : decode method_3_code 48 = .ok (.ireturn, 1) := by decide +kernel
theorem d_method_3_code_49 : decode method_3_code 49 = .ok (.iload_n 0, 1) := by decide +kernel
theorem d_method_3_code_50 : decode method_3_code 50 = .ok (.bipush 7, 2) := by decide +kernel
theorem d_method_3_code_52 : decode method_3_code 52 = .ok (.if_icmp .ne 5, 3) := by decide +kernel
theorem d_method_3_code_55 : decode method_3_code 55 = .ok (.iconst 0, 1) := by decide +kernel
theorem d_method_3_code_56 : decode method_3_code 56 = .ok (.ireturn, 1) := by decide +kernel
theorem d_method_3_code_57 : decode method_3_code 57 = .ok (.iload_n 0, 1) := by decide +kernel
theorem d_method_3_code_58 : decode method_3_code 58 = .ok (.bipush 8, 2) := by decide +kernel
theorem d_method_3_code_60 : decode method_3_code 60 = .ok (.if_icmp .ne 5, 3) := by decide +kernel
theorem d_method_3_code_63 : decode method_3_code 63 = .ok (.iconst 1, 1) := by decide +kernel
theorem d_method_3_code_64 : decode method_3_code 64 = .ok (.ireturn, 1) := by decide +kernel
theorem d_method_3_code_65 : decode method_3_code 65 = .ok (.iconst 0, 1) := by decide +kernel
theorem d_method_3_code_66 : decode method_3_code 66 = .ok (.ireturn, 1) := by decide +kernel
def Q_rmA (Z : State) (p1 : Int32) (h0 : Heap) (n0 : Nat) (v : Option Value) (h : Heap) (L : List Loc) : Prop := v = some (.int (own_allow p1)) ∧ Fr n0 L ∧ h = h0
set_option maxRecDepth 65536 in
set_option maxHeartbeats 40000000 in
theorem rmA_t (l : Launch) (Z : State) (a0 : Array Value) (hw : ∀ d ∈ tables_1, d.before a0 Z = true) (ws : List Jvm.Cond) (p1 : Int32) (h0 : Heap) (n0 : Nat) (Z0 : n0 ≤ h0.size) (hc1 : p1 = (0 : Int32)) (hres : (own_allow p1) = (1 : Int32)) :
    MetFree l (⟨"com/example/libfiat/libfiat/idl/CategoryDiscriminatesPinLaw", "allowedSwitchType", "(I)Z"⟩ : MethodName) (head1 (Jvm.Cond.code (⟨"com/example/libfiat/libfiat/idl/CategoryDiscriminatesPinLaw", "allowedSwitchType", "(I)Z"⟩ : MethodName) method_3_code 1 (some .boolean) :: ws) ({ frames := 0, cells := 0, slots := 0, locals := 0 } : Room)) (fun a U => a = #[(.int p1)] ∧ Z.Warmed39 U.vm ∧ U.heap = h0) (fun _ _ _ _ _ => True) (fun _ U o U' => ∃ v L, o = .returned v ∧ Q_rmA Z p1 h0 n0 v U'.heap L ∧ FrameEnd U o U' L ({ frames := 0, cells := 0, slots := 0, locals := 0 } : Room).cells ({ frames := 0, cells := 0, slots := 0, locals := 0 } : Room).slots) := by
  refine MetFree.of_bodySF (plainFor_of_name pn_0) hisR ?_
  intro p e s m args below meth c s₁ Bd hml0 hP hK
  obtain ⟨rfl, hZ, hh⟩ := hP
  have hx := Bd.exec
  have hby := Bd.bytes
  have hml : c.maxLocals = 1 := hml0
  have hown : s.vm.findClass "com/example/libfiat/libfiat/idl/CategoryDiscriminatesPinLaw" = some m.cls := findClass_of_methodNamed Bd.named
  have hnm := (name_of_methodNamed Bd.named Bd.method).1
  have X0 : Stand p l e ({ frames := 0, cells := 0, slots := 0, locals := 0 } : Room) s m #[(.int p1)] below meth c s₁ [] 0 0 := Stand.of_body Bd
  have e0 : s₁.heap = h0 := by rw [← hh, Bd.state]; rfl
  have N0 := Fr.nil n0
  have pre0 : ∀ t, Steps p.tables e below (s₁.setTop (mkF m 0 #[.val (.int p1)] [])) t → Steps p.tables e below (s₁.setTop (entryFrame m #[(.int p1)] 1)) t := fun t k => castTop (ef_0 m p1) k
  obtain ⟨fs, hr, hrun, hended, hW, hsame⟩ := X0.leave (v := some (.int (1 : Int32))) (fun h => by rw [Bd.returns] at h; cases h)
  refine ⟨_, _, pre0 _ ?_, hrun, hended, _, _, rfl, ?_, ⟨_, rfl⟩, hW, hsame.mono (by decide) (by decide)⟩
  · show Steps p.tables e below (s₁.setTop (mkF m 0 #[.val (.int p1)] [])) _
    refine XS.iloadN X0.here hx rfl (hb hby d_method_3_code_0) rfl ?_
    show Steps p.tables e below (s₁.setTop (mkF m 1 #[.val (.int p1)] [(.int p1)])) _
    refine XS.ifNo X0.here hx rfl (hb hby d_method_3_code_1) rfl ((if0 _ _).trans (teq hc1).2) ?_
    show Steps p.tables e below (s₁.setTop (mkF m 4 #[.val (.int p1)] [])) _
    refine XS.iconst X0.here hx rfl (hb hby d_method_3_code_4) ?_
    show Steps p.tables e below (s₁.setTop (mkF m 5 #[.val (.int p1)] [(.int (1 : Int32))])) _
    exact retN X0 hx (t := .boolean) Bd.returns (by simp) (hb hby d_method_3_code_5) hr
  · show Q_rmA Z p1 h0 n0 _ s₁.heap _
    rw [e0]
    exact ⟨by rw [hres], N0, rfl⟩
set_option maxRecDepth 65536 in
set_option maxHeartbeats 40000000 in
theorem rmA_ft (l : Launch) (Z : State) (a0 : Array Value) (hw : ∀ d ∈ tables_1, d.before a0 Z = true) (ws : List Jvm.Cond) (p1 : Int32) (h0 : Heap) (n0 : Nat) (Z0 : n0 ≤ h0.size) (hc1 : ¬ (p1 = (0 : Int32))) (hc8 : p1 = (1 : Int32)) (hres : (own_allow p1) = (0 : Int32)) :
    MetFree l (⟨"com/example/libfiat/libfiat/idl/CategoryDiscriminatesPinLaw", "allowedSwitchType", "(I)Z"⟩ : MethodName) (head1 (Jvm.Cond.code (⟨"com/example/libfiat/libfiat/idl/CategoryDiscriminatesPinLaw", "allowedSwitchType", "(I)Z"⟩ : MethodName) method_3_code 1 (some .boolean) :: ws) ({ frames := 0, cells := 0, slots := 0, locals := 0 } : Room)) (fun a U => a = #[(.int p1)] ∧ Z.Warmed39 U.vm ∧ U.heap = h0) (fun _ _ _ _ _ => True) (fun _ U o U' => ∃ v L, o = .returned v ∧ Q_rmA Z p1 h0 n0 v U'.heap L ∧ FrameEnd U o U' L ({ frames := 0, cells := 0, slots := 0, locals := 0 } : Room).cells ({ frames := 0, cells := 0, slots := 0, locals := 0 } : Room).slots) := by
  refine MetFree.of_bodySF (plainFor_of_name pn_0) hisR ?_
  intro p e s m args below meth c s₁ Bd hml0 hP hK
  obtain ⟨rfl, hZ, hh⟩ := hP
  have hx := Bd.exec
  have hby := Bd.bytes
  have hml : c.maxLocals = 1 := hml0
  have hown : s.vm.findClass "com/example/libfiat/libfiat/idl/CategoryDiscriminatesPinLaw" = some m.cls := findClass_of_methodNamed Bd.named
  have hnm := (name_of_methodNamed Bd.named Bd.method).1
  have X0 : Stand p l e ({ frames := 0, cells := 0, slots := 0, locals := 0 } : Room) s m #[(.int p1)] below meth c s₁ [] 0 0 := Stand.of_body Bd
  have e0 : s₁.heap = h0 := by rw [← hh, Bd.state]; rfl
  have N0 := Fr.nil n0
  have pre0 : ∀ t, Steps p.tables e below (s₁.setTop (mkF m 0 #[.val (.int p1)] [])) t → Steps p.tables e below (s₁.setTop (entryFrame m #[(.int p1)] 1)) t := fun t k => castTop (ef_0 m p1) k
  obtain ⟨fs, hr, hrun, hended, hW, hsame⟩ := X0.leave (v := some (.int (0 : Int32))) (fun h => by rw [Bd.returns] at h; cases h)
  refine ⟨_, _, pre0 _ ?_, hrun, hended, _, _, rfl, ?_, ⟨_, rfl⟩, hW, hsame.mono (by decide) (by decide)⟩
  · show Steps p.tables e below (s₁.setTop (mkF m 0 #[.val (.int p1)] [])) _
    refine XS.iloadN X0.here hx rfl (hb hby d_method_3_code_0) rfl ?_
    show Steps p.tables e below (s₁.setTop (mkF m 1 #[.val (.int p1)] [(.int p1)])) _
    refine XS.ifYes X0.here hx rfl (pc0 := 1) (pc' := 6) rfl (hb hby d_method_3_code_1) rfl ((if0 _ _).trans (feq hc1).2) (by decide) (by decide) ?_
    show Steps p.tables e below (s₁.setTop (mkF m 6 #[.val (.int p1)] [])) _
    refine XS.iloadN X0.here hx rfl (hb hby d_method_3_code_6) rfl ?_
    show Steps p.tables e below (s₁.setTop (mkF m 7 #[.val (.int p1)] [(.int p1)])) _
    refine XS.iconst X0.here hx rfl (hb hby d_method_3_code_7) ?_
    show Steps p.tables e below (s₁.setTop (mkF m 8 #[.val (.int p1)] [(.int (1 : Int32)), (.int p1)])) _
    refine XS.icmpNo X0.here hx rfl (hb hby d_method_3_code_8) rfl (teq hc8).2 ?_
    show Steps p.tables e below (s₁.setTop (mkF m 11 #[.val (.int p1)] [])) _
    refine XS.iconst X0.here hx rfl (hb hby d_method_3_code_11) ?_
    show Steps p.tables e below (s₁.setTop (mkF m 12 #[.val (.int p1)] [(.int (0 : Int32))])) _
    exact retN X0 hx (t := .boolean) Bd.returns (by simp) (hb hby d_method_3_code_12) hr
  · show Q_rmA Z p1 h0 n0 _ s₁.heap _
    rw [e0]
    exact ⟨by rw [hres], N0, rfl⟩
set_option maxRecDepth 65536 in
set_option maxHeartbeats 40000000 in
theorem rmA_fft (l : Launch) (Z : State) (a0 : Array Value) (hw : ∀ d ∈ tables_1, d.before a0 Z = true) (ws : List Jvm.Cond) (p1 : Int32) (h0 : Heap) (n0 : Nat) (Z0 : n0 ≤ h0.size) (hc1 : ¬ (p1 = (0 : Int32))) (hc8 : ¬ (p1 = (1 : Int32))) (hc15 : p1 = (2 : Int32)) (hres : (own_allow p1) = (0 : Int32)) :
    MetFree l (⟨"com/example/libfiat/libfiat/idl/CategoryDiscriminatesPinLaw", "allowedSwitchType", "(I)Z"⟩ : MethodName) (head1 (Jvm.Cond.code (⟨"com/example/libfiat/libfiat/idl/CategoryDiscriminatesPinLaw", "allowedSwitchType", "(I)Z"⟩ : MethodName) method_3_code 1 (some .boolean) :: ws) ({ frames := 0, cells := 0, slots := 0, locals := 0 } : Room)) (fun a U => a = #[(.int p1)] ∧ Z.Warmed39 U.vm ∧ U.heap = h0) (fun _ _ _ _ _ => True) (fun _ U o U' => ∃ v L, o = .returned v ∧ Q_rmA Z p1 h0 n0 v U'.heap L ∧ FrameEnd U o U' L ({ frames := 0, cells := 0, slots := 0, locals := 0 } : Room).cells ({ frames := 0, cells := 0, slots := 0, locals := 0 } : Room).slots) := by
  refine MetFree.of_bodySF (plainFor_of_name pn_0) hisR ?_
  intro p e s m args below meth c s₁ Bd hml0 hP hK
  obtain ⟨rfl, hZ, hh⟩ := hP
  have hx := Bd.exec
  have hby := Bd.bytes
  have hml : c.maxLocals = 1 := hml0
  have hown : s.vm.findClass "com/example/libfiat/libfiat/idl/CategoryDiscriminatesPinLaw" = some m.cls := findClass_of_methodNamed Bd.named
  have hnm := (name_of_methodNamed Bd.named Bd.method).1
  have X0 : Stand p l e ({ frames := 0, cells := 0, slots := 0, locals := 0 } : Room) s m #[(.int p1)] below meth c s₁ [] 0 0 := Stand.of_body Bd
  have e0 : s₁.heap = h0 := by rw [← hh, Bd.state]; rfl
  have N0 := Fr.nil n0
  have pre0 : ∀ t, Steps p.tables e below (s₁.setTop (mkF m 0 #[.val (.int p1)] [])) t → Steps p.tables e below (s₁.setTop (entryFrame m #[(.int p1)] 1)) t := fun t k => castTop (ef_0 m p1) k
  obtain ⟨fs, hr, hrun, hended, hW, hsame⟩ := X0.leave (v := some (.int (0 : Int32))) (fun h => by rw [Bd.returns] at h; cases h)
  refine ⟨_, _, pre0 _ ?_, hrun, hended, _, _, rfl, ?_, ⟨_, rfl⟩, hW, hsame.mono (by decide) (by decide)⟩
  · show Steps p.tables e below (s₁.setTop (mkF m 0 #[.val (.int p1)] [])) _
    refine XS.iloadN X0.here hx rfl (hb hby d_method_3_code_0) rfl ?_
    show Steps p.tables e below (s₁.setTop (mkF m 1 #[.val (.int p1)] [(.int p1)])) _
    refine XS.ifYes X0.here hx rfl (pc0 := 1) (pc' := 6) rfl (hb hby d_method_3_code_1) rfl ((if0 _ _).trans (feq hc1).2) (by decide) (by decide) ?_
    show Steps p.tables e below (s₁.setTop (mkF m 6 #[.val (.int p1)] [])) _
    refine XS.iloadN X0.here hx rfl (hb hby d_method_3_code_6) rfl ?_
    show Steps p.tables e below (s₁.setTop (mkF m 7 #[.val (.int p1)] [(.int p1)])) _
    refine XS.iconst X0.here hx rfl (hb hby d_method_3_code_7) ?_
    show Steps p.tables e below (s₁.setTop (mkF m 8 #[.val (.int p1)] [(.int (1 : Int32)), (.int p1)])) _
    refine XS.icmpYes X0.here hx rfl (pc0 := 8) (pc' := 13) rfl (hb hby d_method_3_code_8) rfl (feq hc8).2 (by decide) (by decide) ?_
    show Steps p.tables e below (s₁.setTop (mkF m 13 #[.val (.int p1)] [])) _
    refine XS.iloadN X0.here hx rfl (hb hby d_method_3_code_13) rfl ?_
    show Steps p.tables e below (s₁.setTop (mkF m 14 #[.val (.int p1)] [(.int p1)])) _
    refine XS.iconst X0.here hx rfl (hb hby d_method_3_code_14) ?_
    show Steps p.tables e below (s₁.setTop (mkF m 15 #[.val (.int p1)] [(.int (2 : Int32)), (.int p1)])) _
    refine XS.icmpNo X0.here hx rfl (hb hby d_method_3_code_15) rfl (teq hc15).2 ?_
    show Steps p.tables e below (s₁.setTop (mkF m 18 #[.val (.int p1)] [])) _
    refine XS.iconst X0.here hx rfl (hb hby d_method_3_code_18) ?_
    show Steps p.tables e below (s₁.setTop (mkF m 19 #[.val (.int p1)] [(.int (0 : Int32))])) _
    exact retN X0 hx (t := .boolean) Bd.returns (by simp) (hb hby d_method_3_code_19) hr
  · show Q_rmA Z p1 h0 n0 _ s₁.heap _
    rw [e0]
    exact ⟨by rw [hres], N0, rfl⟩
set_option maxRecDepth 65536 in
set_option maxHeartbeats 40000000 in
theorem rmA_ffft (l : Launch) (Z : State) (a0 : Array Value) (hw : ∀ d ∈ tables_1, d.before a0 Z = true) (ws : List Jvm.Cond) (p1 : Int32) (h0 : Heap) (n0 : Nat) (Z0 : n0 ≤ h0.size) (hc1 : ¬ (p1 = (0 : Int32))) (hc8 : ¬ (p1 = (1 : Int32))) (hc15 : ¬ (p1 = (2 : Int32))) (hc22 : p1 = (3 : Int32)) (hres : (own_allow p1) = (1 : Int32)) :
    MetFree l (⟨"com/example/libfiat/libfiat/idl/CategoryDiscriminatesPinLaw", "allowedSwitchType", "(I)Z"⟩ : MethodName) (head1 (Jvm.Cond.code (⟨"com/example/libfiat/libfiat/idl/CategoryDiscriminatesPinLaw", "allowedSwitchType", "(I)Z"⟩ : MethodName) method_3_code 1 (some .boolean) :: ws) ({ frames := 0, cells := 0, slots := 0, locals := 0 } : Room)) (fun a U => a = #[(.int p1)] ∧ Z.Warmed39 U.vm ∧ U.heap = h0) (fun _ _ _ _ _ => True) (fun _ U o U' => ∃ v L, o = .returned v ∧ Q_rmA Z p1 h0 n0 v U'.heap L ∧ FrameEnd U o U' L ({ frames := 0, cells := 0, slots := 0, locals := 0 } : Room).cells ({ frames := 0, cells := 0, slots := 0, locals := 0 } : Room).slots) := by
  refine MetFree.of_bodySF (plainFor_of_name pn_0) hisR ?_
  intro p e s m args below meth c s₁ Bd hml0 hP hK
  obtain ⟨rfl, hZ, hh⟩ := hP
  have hx := Bd.exec
  have hby := Bd.bytes
  have hml : c.maxLocals = 1 := hml0
  have hown : s.vm.findClass "com/example/libfiat/libfiat/idl/CategoryDiscriminatesPinLaw" = some m.cls := findClass_of_methodNamed Bd.named
  have hnm := (name_of_methodNamed Bd.named Bd.method).1
  have X0 : Stand p l e ({ frames := 0, cells := 0, slots := 0, locals := 0 } : Room) s m #[(.int p1)] below meth c s₁ [] 0 0 := Stand.of_body Bd
  have e0 : s₁.heap = h0 := by rw [← hh, Bd.state]; rfl
  have N0 := Fr.nil n0
  have pre0 : ∀ t, Steps p.tables e below (s₁.setTop (mkF m 0 #[.val (.int p1)] [])) t → Steps p.tables e below (s₁.setTop (entryFrame m #[(.int p1)] 1)) t := fun t k => castTop (ef_0 m p1) k
  obtain ⟨fs, hr, hrun, hended, hW, hsame⟩ := X0.leave (v := some (.int (1 : Int32))) (fun h => by rw [Bd.returns] at h; cases h)
  refine ⟨_, _, pre0 _ ?_, hrun, hended, _, _, rfl, ?_, ⟨_, rfl⟩, hW, hsame.mono (by decide) (by decide)⟩
  · show Steps p.tables e below (s₁.setTop (mkF m 0 #[.val (.int p1)] [])) _
    refine XS.iloadN X0.here hx rfl (hb hby d_method_3_code_0) rfl ?_
    show Steps p.tables e below (s₁.setTop (mkF m 1 #[.val (.int p1)] [(.int p1)])) _
    refine XS.ifYes X0.here hx rfl (pc0 := 1) (pc' := 6) rfl (hb hby d_method_3_code_1) rfl ((if0 _ _).trans (feq hc1).2) (by decide) (by decide) ?_
    show Steps p.tables e below (s₁.setTop (mkF m 6 #[.val (.int p1)] [])) _
    refine XS.iloadN X0.here hx rfl (hb hby d_method_3_code_6) rfl ?_
    show Steps p.tables e below (s₁.setTop (mkF m 7 #[.val (.int p1)] [(.int p1)])) _
    refine XS.iconst X0.here hx rfl (hb hby d_method_3_code_7) ?_
    show Steps p.tables e below (s₁.setTop (mkF m 8 #[.val (.int p1)] [(.int (1 : Int32)), (.int p1)])) _
    refine XS.icmpYes X0.here hx rfl (pc0 := 8) (pc' := 13) rfl (hb hby d_method_3_code_8) rfl (feq hc8).2 (by decide) (by decide) ?_
    show Steps p.tables e below (s₁.setTop (mkF m 13 #[.val (.int p1)] [])) _
    refine XS.iloadN X0.here hx rfl (hb hby d_method_3_code_13) rfl ?_
    show Steps p.tables e below (s₁.setTop (mkF m 14 #[.val (.int p1)] [(.int p1)])) _
    refine XS.iconst X0.here hx rfl (hb hby d_method_3_code_14) ?_
    show Steps p.tables e below (s₁.setTop (mkF m 15 #[.val (.int p1)] [(.int (2 : Int32)), (.int p1)])) _
    refine XS.icmpYes X0.here hx rfl (pc0 := 15) (pc' := 20) rfl (hb hby d_method_3_code_15) rfl (feq hc15).2 (by decide) (by decide) ?_
    show Steps p.tables e below (s₁.setTop (mkF m 20 #[.val (.int p1)] [])) _
    refine XS.iloadN X0.here hx rfl (hb hby d_method_3_code_20) rfl ?_
    show Steps p.tables e below (s₁.setTop (mkF m 21 #[.val (.int p1)] [(.int p1)])) _
    refine XS.iconst X0.here hx rfl (hb hby d_method_3_code_21) ?_
    show Steps p.tables e below (s₁.setTop (mkF m 22 #[.val (.int p1)] [(.int (3 : Int32)), (.int p1)])) _
    refine XS.icmpNo X0.here hx rfl (hb hby d_method_3_code_22) rfl (teq hc22).2 ?_
    show Steps p.tables e below (s₁.setTop (mkF m 25 #[.val (.int p1)] [])) _
    refine XS.iconst X0.here hx rfl (hb hby d_method_3_code_25) ?_
    show Steps p.tables e below (s₁.setTop (mkF m 26 #[.val (.int p1)] [(.int (1 : Int32))])) _
    exact retN X0 hx (t := .boolean) Bd.returns (by simp) (hb hby d_method_3_code_26) hr
  · show Q_rmA Z p1 h0 n0 _ s₁.heap _
    rw [e0]
    exact ⟨by rw [hres], N0, rfl⟩
set_option maxRecDepth 65536 in
set_option maxHeartbeats 40000000 in
theorem rmA_fffft (l : Launch) (Z : State) (a0 : Array Value) (hw : ∀ d ∈ tables_1, d.before a0 Z = true) (ws : List Jvm.Cond) (p1 : Int32) (h0 : Heap) (n0 : Nat) (Z0 : n0 ≤ h0.size) (hc1 : ¬ (p1 = (0 : Int32))) (hc8 : ¬ (p1 = (1 : Int32))) (hc15 : ¬ (p1 = (2 : Int32))) (hc22 : ¬ (p1 = (3 : Int32))) (hc29 : p1 = (4 : Int32)) (hres : (own_allow p1) = (1 : Int32)) :
    MetFree l (⟨"com/example/libfiat/libfiat/idl/CategoryDiscriminatesPinLaw", "allowedSwitchType", "(I)Z"⟩ : MethodName) (head1 (Jvm.Cond.code (⟨"com/example/libfiat/libfiat/idl/CategoryDiscriminatesPinLaw", "allowedSwitchType", "(I)Z"⟩ : MethodName) method_3_code 1 (some .boolean) :: ws) ({ frames := 0, cells := 0, slots := 0, locals := 0 } : Room)) (fun a U => a = #[(.int p1)] ∧ Z.Warmed39 U.vm ∧ U.heap = h0) (fun _ _ _ _ _ => True) (fun _ U o U' => ∃ v L, o = .returned v ∧ Q_rmA Z p1 h0 n0 v U'.heap L ∧ FrameEnd U o U' L ({ frames := 0, cells := 0, slots := 0, locals := 0 } : Room).cells ({ frames := 0, cells := 0, slots := 0, locals := 0 } : Room).slots) := by
  refine MetFree.of_bodySF (plainFor_of_name pn_0) hisR ?_
  intro p e s m args below meth c s₁ Bd hml0 hP hK
  obtain ⟨rfl, hZ, hh⟩ := hP
  have hx := Bd.exec
  have hby := Bd.bytes
  have hml : c.maxLocals = 1 := hml0
  have hown : s.vm.findClass "com/example/libfiat/libfiat/idl/CategoryDiscriminatesPinLaw" = some m.cls := findClass_of_methodNamed Bd.named
  have hnm := (name_of_methodNamed Bd.named Bd.method).1
  have X0 : Stand p l e ({ frames := 0, cells := 0, slots := 0, locals := 0 } : Room) s m #[(.int p1)] below meth c s₁ [] 0 0 := Stand.of_body Bd
  have e0 : s₁.heap = h0 := by rw [← hh, Bd.state]; rfl
  have N0 := Fr.nil n0
  have pre0 : ∀ t, Steps p.tables e below (s₁.setTop (mkF m 0 #[.val (.int p1)] [])) t → Steps p.tables e below (s₁.setTop (entryFrame m #[(.int p1)] 1)) t := fun t k => castTop (ef_0 m p1) k
  obtain ⟨fs, hr, hrun, hended, hW, hsame⟩ := X0.leave (v := some (.int (1 : Int32))) (fun h => by rw [Bd.returns] at h; cases h)
  refine ⟨_, _, pre0 _ ?_, hrun, hended, _, _, rfl, ?_, ⟨_, rfl⟩, hW, hsame.mono (by decide) (by decide)⟩
  · show Steps p.tables e below (s₁.setTop (mkF m 0 #[.val (.int p1)] [])) _
    refine XS.iloadN X0.here hx rfl (hb hby d_method_3_code_0) rfl ?_
    show Steps p.tables e below (s₁.setTop (mkF m 1 #[.val (.int p1)] [(.int p1)])) _
    refine XS.ifYes X0.here hx rfl (pc0 := 1) (pc' := 6) rfl (hb hby d_method_3_code_1) rfl ((if0 _ _).trans (feq hc1).2) (by decide) (by decide) ?_
    show Steps p.tables e below (s₁.setTop (mkF m 6 #[.val (.int p1)] [])) _
    refine XS.iloadN X0.here hx rfl (hb hby d_method_3_code_6) rfl ?_
    show Steps p.tables e below (s₁.setTop (mkF m 7 #[.val (.int p1)] [(.int p1)])) _
    refine XS.iconst X0.here hx rfl (hb hby d_method_3_code_7) ?_
    show Steps p.tables e below (s₁.setTop (mkF m 8 #[.val (.int p1)] [(.int (1 : Int32)), (.int p1)])) _
    refine XS.icmpYes X0.here hx rfl (pc0 := 8) (pc' := 13) rfl (hb hby d_method_3_code_8) rfl (feq hc8).2 (by decide) (by decide) ?_
    show Steps p.tables e below (s₁.setTop (mkF m 13 #[.val (.int p1)] [])) _
    refine XS.iloadN X0.here hx rfl (hb hby d_method_3_code_13) rfl ?_
    show Steps p.tables e below (s₁.setTop (mkF m 14 #[.val (.int p1)] [(.int p1)])) _
    refine XS.iconst X0.here hx rfl (hb hby d_method_3_code_14) ?_
    show Steps p.tables e below (s₁.setTop (mkF m 15 #[.val (.int p1)] [(.int (2 : Int32)), (.int p1)])) _
    refine XS.icmpYes X0.here hx rfl (pc0 := 15) (pc' := 20) rfl (hb hby d_method_3_code_15) rfl (feq hc15).2 (by decide) (by decide) ?_
    show Steps p.tables e below (s₁.setTop (mkF m 20 #[.val (.int p1)] [])) _
    refine XS.iloadN X0.here hx rfl (hb hby d_method_3_code_20) rfl ?_
    show Steps p.tables e below (s₁.setTop (mkF m 21 #[.val (.int p1)] [(.int p1)])) _
    refine XS.iconst X0.here hx rfl (hb hby d_method_3_code_21) ?_
    show Steps p.tables e below (s₁.setTop (mkF m 22 #[.val (.int p1)] [(.int (3 : Int32)), (.int p1)])) _
    refine XS.icmpYes X0.here hx rfl (pc0 := 22) (pc' := 27) rfl (hb hby d_method_3_code_22) rfl (feq hc22).2 (by decide) (by decide) ?_
    show Steps p.tables e below (s₁.setTop (mkF m 27 #[.val (.int p1)] [])) _
    refine XS.iloadN X0.here hx rfl (hb hby d_method_3_code_27) rfl ?_
    show Steps p.tables e below (s₁.setTop (mkF m 28 #[.val (.int p1)] [(.int p1)])) _
    refine XS.iconst X0.here hx rfl (hb hby d_method_3_code_28) ?_
    show Steps p.tables e below (s₁.setTop (mkF m 29 #[.val (.int p1)] [(.int (4 : Int32)), (.int p1)])) _
    refine XS.icmpNo X0.here hx rfl (hb hby d_method_3_code_29) rfl (teq hc29).2 ?_
    show Steps p.tables e below (s₁.setTop (mkF m 32 #[.val (.int p1)] [])) _
    refine XS.iconst X0.here hx rfl (hb hby d_method_3_code_32) ?_
    show Steps p.tables e below (s₁.setTop (mkF m 33 #[.val (.int p1)] [(.int (1 : Int32))])) _
    exact retN X0 hx (t := .boolean) Bd.returns (by simp) (hb hby d_method_3_code_33) hr
  · show Q_rmA Z p1 h0 n0 _ s₁.heap _
    rw [e0]
    exact ⟨by rw [hres], N0, rfl⟩
set_option maxRecDepth 65536 in
set_option maxHeartbeats 40000000 in
theorem rmA_ffffft (l : Launch) (Z : State) (a0 : Array Value) (hw : ∀ d ∈ tables_1, d.before a0 Z = true) (ws : List Jvm.Cond) (p1 : Int32) (h0 : Heap) (n0 : Nat) (Z0 : n0 ≤ h0.size) (hc1 : ¬ (p1 = (0 : Int32))) (hc8 : ¬ (p1 = (1 : Int32))) (hc15 : ¬ (p1 = (2 : Int32))) (hc22 : ¬ (p1 = (3 : Int32))) (hc29 : ¬ (p1 = (4 : Int32))) (hc36 : p1 = (5 : Int32)) (hres : (own_allow p1) = (1 : Int32)) :
    MetFree l (⟨"com/example/libfiat/libfiat/idl/CategoryDiscriminatesPinLaw", "allowedSwitchType", "(I)Z"⟩ : MethodName) (head1 (Jvm.Cond.code (⟨"com/example/libfiat/libfiat/idl/CategoryDiscriminatesPinLaw", "allowedSwitchType", "(I)Z"⟩ : MethodName) method_3_code 1 (some .boolean) :: ws) ({ frames := 0, cells := 0, slots := 0, locals := 0 } : Room)) (fun a U => a = #[(.int p1)] ∧ Z.Warmed39 U.vm ∧ U.heap = h0) (fun _ _ _ _ _ => True) (fun _ U o U' => ∃ v L, o = .returned v ∧ Q_rmA Z p1 h0 n0 v U'.heap L ∧ FrameEnd U o U' L ({ frames := 0, cells := 0, slots := 0, locals := 0 } : Room).cells ({ frames := 0, cells := 0, slots := 0, locals := 0 } : Room).slots) := by
  refine MetFree.of_bodySF (plainFor_of_name pn_0) hisR ?_
  intro p e s m args below meth c s₁ Bd hml0 hP hK
  obtain ⟨rfl, hZ, hh⟩ := hP
  have hx := Bd.exec
  have hby := Bd.bytes
  have hml : c.maxLocals = 1 := hml0
  have hown : s.vm.findClass "com/example/libfiat/libfiat/idl/CategoryDiscriminatesPinLaw" = some m.cls := findClass_of_methodNamed Bd.named
  have hnm := (name_of_methodNamed Bd.named Bd.method).1
  have X0 : Stand p l e ({ frames := 0, cells := 0, slots := 0, locals := 0 } : Room) s m #[(.int p1)] below meth c s₁ [] 0 0 := Stand.of_body Bd
  have e0 : s₁.heap = h0 := by rw [← hh, Bd.state]; rfl
  have N0 := Fr.nil n0
  have pre0 : ∀ t, Steps p.tables e below (s₁.setTop (mkF m 0 #[.val (.int p1)] [])) t → Steps p.tables e below (s₁.setTop (entryFrame m #[(.int p1)] 1)) t := fun t k => castTop (ef_0 m p1) k
  obtain ⟨fs, hr, hrun, hended, hW, hsame⟩ := X0.leave (v := some (.int (1 : Int32))) (fun h => by rw [Bd.returns] at h; cases h)
  refine ⟨_, _, pre0 _ ?_, hrun, hended, _, _, rfl, ?_, ⟨_, rfl⟩, hW, hsame.mono (by decide) (by decide)⟩
  · show Steps p.tables e below (s₁.setTop (mkF m 0 #[.val (.int p1)] [])) _
    refine XS.iloadN X0.here hx rfl (hb hby d_method_3_code_0) rfl ?_
    show Steps p.tables e below (s₁.setTop (mkF m 1 #[.val (.int p1)] [(.int p1)])) _
    refine XS.ifYes X0.here hx rfl (pc0 := 1) (pc' := 6) rfl (hb hby d_method_3_code_1) rfl ((if0 _ _).trans (feq hc1).2) (by decide) (by decide) ?_
    show Steps p.tables e below (s₁.setTop (mkF m 6 #[.val (.int p1)] [])) _
    refine XS.iloadN X0.here hx rfl (hb hby d_method_3_code_6) rfl ?_
    show Steps p.tables e below (s₁.setTop (mkF m 7 #[.val (.int p1)] [(.int p1)])) _
    refine XS.iconst X0.here hx rfl (hb hby d_method_3_code_7) ?_
    show Steps p.tables e below (s₁.setTop (mkF m 8 #[.val (.int p1)] [(.int (1 : Int32)), (.int p1)])) _
    refine XS.icmpYes X0.here hx rfl (pc0 := 8) (pc' := 13) rfl (hb hby d_method_3_code_8) rfl (feq hc8).2 (by decide) (by decide) ?_
    show Steps p.tables e below (s₁.setTop (mkF m 13 #[.val (.int p1)] [])) _
    refine XS.iloadN X0.here hx rfl (hb hby d_method_3_code_13) rfl ?_
    show Steps p.tables e below (s₁.setTop (mkF m 14 #[.val (.int p1)] [(.int p1)])) _
    refine XS.iconst X0.here hx rfl (hb hby d_method_3_code_14) ?_
    show Steps p.tables e below (s₁.setTop (mkF m 15 #[.val (.int p1)] [(.int (2 : Int32)), (.int p1)])) _
    refine XS.icmpYes X0.here hx rfl (pc0 := 15) (pc' := 20) rfl (hb hby d_method_3_code_15) rfl (feq hc15).2 (by decide) (by decide) ?_
    show Steps p.tables e below (s₁.setTop (mkF m 20 #[.val (.int p1)] [])) _
    refine XS.iloadN X0.here hx rfl (hb hby d_method_3_code_20) rfl ?_
    show Steps p.tables e below (s₁.setTop (mkF m 21 #[.val (.int p1)] [(.int p1)])) _
    refine XS.iconst X0.here hx rfl (hb hby d_method_3_code_21) ?_
    show Steps p.tables e below (s₁.setTop (mkF m 22 #[.val (.int p1)] [(.int (3 : Int32)), (.int p1)])) _
    refine XS.icmpYes X0.here hx rfl (pc0 := 22) (pc' := 27) rfl (hb hby d_method_3_code_22) rfl (feq hc22).2 (by decide) (by decide) ?_
    show Steps p.tables e below (s₁.setTop (mkF m 27 #[.val (.int p1)] [])) _
    refine XS.iloadN X0.here hx rfl (hb hby d_method_3_code_27) rfl ?_
    show Steps p.tables e below (s₁.setTop (mkF m 28 #[.val (.int p1)] [(.int p1)])) _
    refine XS.iconst X0.here hx rfl (hb hby d_method_3_code_28) ?_
    show Steps p.tables e below (s₁.setTop (mkF m 29 #[.val (.int p1)] [(.int (4 : Int32)), (.int p1)])) _
    refine XS.icmpYes X0.here hx rfl (pc0 := 29) (pc' := 34) rfl (hb hby d_method_3_code_29) rfl (feq hc29).2 (by decide) (by decide) ?_
    show Steps p.tables e below (s₁.setTop (mkF m 34 #[.val (.int p1)] [])) _
    refine XS.iloadN X0.here hx rfl (hb hby d_method_3_code_34) rfl ?_
    show Steps p.tables e below (s₁.setTop (mkF m 35 #[.val (.int p1)] [(.int p1)])) _
    refine XS.iconst X0.here hx rfl (hb hby d_method_3_code_35) ?_
    show Steps p.tables e below (s₁.setTop (mkF m 36 #[.val (.int p1)] [(.int (5 : Int32)), (.int p1)])) _
    refine XS.icmpNo X0.here hx rfl (hb hby d_method_3_code_36) rfl (teq hc36).2 ?_
    show Steps p.tables e below (s₁.setTop (mkF m 39 #[.val (.int p1)] [])) _
    refine XS.iconst X0.here hx rfl (hb hby d_method_3_code_39) ?_
    show Steps p.tables e below (s₁.setTop (mkF m 40 #[.val (.int p1)] [(.int (1 : Int32))])) _
    exact retN X0 hx (t := .boolean) Bd.returns (by simp) (hb hby d_method_3_code_40) hr
  · show Q_rmA Z p1 h0 n0 _ s₁.heap _
    rw [e0]
    exact ⟨by rw [hres], N0, rfl⟩
set_option maxRecDepth 65536 in
set_option maxHeartbeats 40000000 in
theorem rmA_fffffft (l : Launch) (Z : State) (a0 : Array Value) (hw : ∀ d ∈ tables_1, d.before a0 Z = true) (ws : List Jvm.Cond) (p1 : Int32) (h0 : Heap) (n0 : Nat) (Z0 : n0 ≤ h0.size) (hc1 : ¬ (p1 = (0 : Int32))) (hc8 : ¬ (p1 = (1 : Int32))) (hc15 : ¬ (p1 = (2 : Int32))) (hc22 : ¬ (p1 = (3 : Int32))) (hc29 : ¬ (p1 = (4 : Int32))) (hc36 : ¬ (p1 = (5 : Int32))) (hc44 : p1 = (6 : Int32)) (hres : (own_allow p1) = (0 : Int32)) :
    MetFree l (⟨"com/example/libfiat/libfiat/idl/CategoryDiscriminatesPinLaw", "allowedSwitchType", "(I)Z"⟩ : MethodName) (head1 (Jvm.Cond.code (⟨"com/example/libfiat/libfiat/idl/CategoryDiscriminatesPinLaw", "allowedSwitchType", "(I)Z"⟩ : MethodName) method_3_code 1 (some .boolean) :: ws) ({ frames := 0, cells := 0, slots := 0, locals := 0 } : Room)) (fun a U => a = #[(.int p1)] ∧ Z.Warmed39 U.vm ∧ U.heap = h0) (fun _ _ _ _ _ => True) (fun _ U o U' => ∃ v L, o = .returned v ∧ Q_rmA Z p1 h0 n0 v U'.heap L ∧ FrameEnd U o U' L ({ frames := 0, cells := 0, slots := 0, locals := 0 } : Room).cells ({ frames := 0, cells := 0, slots := 0, locals := 0 } : Room).slots) := by
  refine MetFree.of_bodySF (plainFor_of_name pn_0) hisR ?_
  intro p e s m args below meth c s₁ Bd hml0 hP hK
  obtain ⟨rfl, hZ, hh⟩ := hP
  have hx := Bd.exec
  have hby := Bd.bytes
  have hml : c.maxLocals = 1 := hml0
  have hown : s.vm.findClass "com/example/libfiat/libfiat/idl/CategoryDiscriminatesPinLaw" = some m.cls := findClass_of_methodNamed Bd.named
  have hnm := (name_of_methodNamed Bd.named Bd.method).1
  have X0 : Stand p l e ({ frames := 0, cells := 0, slots := 0, locals := 0 } : Room) s m #[(.int p1)] below meth c s₁ [] 0 0 := Stand.of_body Bd
  have e0 : s₁.heap = h0 := by rw [← hh, Bd.state]; rfl
  have N0 := Fr.nil n0
  have pre0 : ∀ t, Steps p.tables e below (s₁.setTop (mkF m 0 #[.val (.int p1)] [])) t → Steps p.tables e below (s₁.setTop (entryFrame m #[(.int p1)] 1)) t := fun t k => castTop (ef_0 m p1) k
  obtain ⟨fs, hr, hrun, hended, hW, hsame⟩ := X0.leave (v := some (.int (0 : Int32))) (fun h => by rw [Bd.returns] at h; cases h)
  refine ⟨_, _, pre0 _ ?_, hrun, hended, _, _, rfl, ?_, ⟨_, rfl⟩, hW, hsame.mono (by decide) (by decide)⟩
  · show Steps p.tables e below (s₁.setTop (mkF m 0 #[.val (.int p1)] [])) _
    refine XS.iloadN X0.here hx rfl (hb hby d_method_3_code_0) rfl ?_
    show Steps p.tables e below (s₁.setTop (mkF m 1 #[.val (.int p1)] [(.int p1)])) _
    refine XS.ifYes X0.here hx rfl (pc0 := 1) (pc' := 6) rfl (hb hby d_method_3_code_1) rfl ((if0 _ _).trans (feq hc1).2) (by decide) (by decide) ?_
    show Steps p.tables e below (s₁.setTop (mkF m 6 #[.val (.int p1)] [])) _
    refine XS.iloadN X0.here hx rfl (hb hby d_method_3_code_6) rfl ?_
    show Steps p.tables e below (s₁.setTop (mkF m 7 #[.val (.int p1)] [(.int p1)])) _
    refine XS.iconst X0.here hx rfl (hb hby d_method_3_code_7) ?_
    show Steps p.tables e below (s₁.setTop (mkF m 8 #[.val (.int p1)] [(.int (1 : Int32)), (.int p1)])) _
    refine XS.icmpYes X0.here hx rfl (pc0 := 8) (pc' := 13) rfl (hb hby d_method_3_code_8) rfl (feq hc8).2 (by decide) (by decide) ?_
    show Steps p.tables e below (s₁.setTop (mkF m 13 #[.val (.int p1)] [])) _
    refine XS.iloadN X0.here hx rfl (hb hby d_method_3_code_13) rfl ?_
    show Steps p.tables e below (s₁.setTop (mkF m 14 #[.val (.int p1)] [(.int p1)])) _
    refine XS.iconst X0.here hx rfl (hb hby d_method_3_code_14) ?_
    show Steps p.tables e below (s₁.setTop (mkF m 15 #[.val (.int p1)] [(.int (2 : Int32)), (.int p1)])) _
    refine XS.icmpYes X0.here hx rfl (pc0 := 15) (pc' := 20) rfl (hb hby d_method_3_code_15) rfl (feq hc15).2 (by decide) (by decide) ?_
    show Steps p.tables e below (s₁.setTop (mkF m 20 #[.val (.int p1)] [])) _
    refine XS.iloadN X0.here hx rfl (hb hby d_method_3_code_20) rfl ?_
    show Steps p.tables e below (s₁.setTop (mkF m 21 #[.val (.int p1)] [(.int p1)])) _
    refine XS.iconst X0.here hx rfl (hb hby d_method_3_code_21) ?_
    show Steps p.tables e below (s₁.setTop (mkF m 22 #[.val (.int p1)] [(.int (3 : Int32)), (.int p1)])) _
    refine XS.icmpYes X0.here hx rfl (pc0 := 22) (pc' := 27) rfl (hb hby d_method_3_code_22) rfl (feq hc22).2 (by decide) (by decide) ?_
    show Steps p.tables e below (s₁.setTop (mkF m 27 #[.val (.int p1)] [])) _
    refine XS.iloadN X0.here hx rfl (hb hby d_method_3_code_27) rfl ?_
    show Steps p.tables e below (s₁.setTop (mkF m 28 #[.val (.int p1)] [(.int p1)])) _
    refine XS.iconst X0.here hx rfl (hb hby d_method_3_code_28) ?_
    show Steps p.tables e below (s₁.setTop (mkF m 29 #[.val (.int p1)] [(.int (4 : Int32)), (.int p1)])) _
    refine XS.icmpYes X0.here hx rfl (pc0 := 29) (pc' := 34) rfl (hb hby d_method_3_code_29) rfl (feq hc29).2 (by decide) (by decide) ?_
    show Steps p.tables e below (s₁.setTop (mkF m 34 #[.val (.int p1)] [])) _
    refine XS.iloadN X0.here hx rfl (hb hby d_method_3_code_34) rfl ?_
    show Steps p.tables e below (s₁.setTop (mkF m 35 #[.val (.int p1)] [(.int p1)])) _
    refine XS.iconst X0.here hx rfl (hb hby d_method_3_code_35) ?_
    show Steps p.tables e below (s₁.setTop (mkF m 36 #[.val (.int p1)] [(.int (5 : Int32)), (.int p1)])) _
    refine XS.icmpYes X0.here hx rfl (pc0 := 36) (pc' := 41) rfl (hb hby d_method_3_code_36) rfl (feq hc36).2 (by decide) (by decide) ?_
    show Steps p.tables e below (s₁.setTop (mkF m 41 #[.val (.int p1)] [])) _
    refine XS.iloadN X0.here hx rfl (hb hby d_method_3_code_41) rfl ?_
    show Steps p.tables e below (s₁.setTop (mkF m 42 #[.val (.int p1)] [(.int p1)])) _
    refine XS.bipush X0.here hx rfl (hb hby d_method_3_code_42) ?_
    show Steps p.tables e below (s₁.setTop (mkF m 44 #[.val (.int p1)] [(.int (6 : Int32)), (.int p1)])) _
    refine XS.icmpNo X0.here hx rfl (hb hby d_method_3_code_44) rfl (teq hc44).2 ?_
    show Steps p.tables e below (s₁.setTop (mkF m 47 #[.val (.int p1)] [])) _
    refine XS.iconst X0.here hx rfl (hb hby d_method_3_code_47) ?_
    show Steps p.tables e below (s₁.setTop (mkF m 48 #[.val (.int p1)] [(.int (0 : Int32))])) _
    exact retN X0 hx (t := .boolean) Bd.returns (by simp) (hb hby d_method_3_code_48) hr
  · show Q_rmA Z p1 h0 n0 _ s₁.heap _
    rw [e0]
    exact ⟨by rw [hres], N0, rfl⟩
set_option maxRecDepth 65536 in
set_option maxHeartbeats 40000000 in
theorem rmA_ffffffft (l : Launch) (Z : State) (a0 : Array Value) (hw : ∀ d ∈ tables_1, d.before a0 Z = true) (ws : List Jvm.Cond) (p1 : Int32) (h0 : Heap) (n0 : Nat) (Z0 : n0 ≤ h0.size) (hc1 : ¬ (p1 = (0 : Int32))) (hc8 : ¬ (p1 = (1 : Int32))) (hc15 : ¬ (p1 = (2 : Int32))) (hc22 : ¬ (p1 = (3 : Int32))) (hc29 : ¬ (p1 = (4 : Int32))) (hc36 : ¬ (p1 = (5 : Int32))) (hc44 : ¬ (p1 = (6 : Int32))) (hc52 : p1 = (7 : Int32)) (hres : (own_allow p1) = (0 : Int32)) :
    MetFree l (⟨"com/example/libfiat/libfiat/idl/CategoryDiscriminatesPinLaw", "allowedSwitchType", "(I)Z"⟩ : MethodName) (head1 (Jvm.Cond.code (⟨"com/example/libfiat/libfiat/idl/CategoryDiscriminatesPinLaw", "allowedSwitchType", "(I)Z"⟩ : MethodName) method_3_code 1 (some .boolean) :: ws) ({ frames := 0, cells := 0, slots := 0, locals := 0 } : Room)) (fun a U => a = #[(.int p1)] ∧ Z.Warmed39 U.vm ∧ U.heap = h0) (fun _ _ _ _ _ => True) (fun _ U o U' => ∃ v L, o = .returned v ∧ Q_rmA Z p1 h0 n0 v U'.heap L ∧ FrameEnd U o U' L ({ frames := 0, cells := 0, slots := 0, locals := 0 } : Room).cells ({ frames := 0, cells := 0, slots := 0, locals := 0 } : Room).slots) := by
  refine MetFree.of_bodySF (plainFor_of_name pn_0) hisR ?_
  intro p e s m args below meth c s₁ Bd hml0 hP hK
  obtain ⟨rfl, hZ, hh⟩ := hP
  have hx := Bd.exec
  have hby := Bd.bytes
  have hml : c.maxLocals = 1 := hml0
  have hown : s.vm.findClass "com/example/libfiat/libfiat/idl/CategoryDiscriminatesPinLaw" = some m.cls := findClass_of_methodNamed Bd.named
  have hnm := (name_of_methodNamed Bd.named Bd.method).1
  have X0 : Stand p l e ({ frames := 0, cells := 0, slots := 0, locals := 0 } : Room) s m #[(.int p1)] below meth c s₁ [] 0 0 := Stand.of_body Bd
  have e0 : s₁.heap = h0 := by rw [← hh, Bd.state]; rfl
  have N0 := Fr.nil n0
  have pre0 : ∀ t, Steps p.tables e below (s₁.setTop (mkF m 0 #[.val (.int p1)] [])) t → Steps p.tables e below (s₁.setTop (entryFrame m #[(.int p1)] 1)) t := fun t k => castTop (ef_0 m p1) k
  obtain ⟨fs, hr, hrun, hended, hW, hsame⟩ := X0.leave (v := some (.int (0 : Int32))) (fun h => by rw [Bd.returns] at h; cases h)
  refine ⟨_, _, pre0 _ ?_, hrun, hended, _, _, rfl, ?_, ⟨_, rfl⟩, hW, hsame.mono (by decide) (by decide)⟩
  · show Steps p.tables e below (s₁.setTop (mkF m 0 #[.val (.int p1)] [])) _
    refine XS.iloadN X0.here hx rfl (hb hby d_method_3_code_0) rfl ?_
    show Steps p.tables e below (s₁.setTop (mkF m 1 #[.val (.int p1)] [(.int p1)])) _
    refine XS.ifYes X0.here hx rfl (pc0 := 1) (pc' := 6) rfl (hb hby d_method_3_code_1) rfl ((if0 _ _).trans (feq hc1).2) (by decide) (by decide) ?_
    show Steps p.tables e below (s₁.setTop (mkF m 6 #[.val (.int p1)] [])) _
    refine XS.iloadN X0.here hx rfl (hb hby d_method_3_code_6) rfl ?_
    show Steps p.tables e below (s₁.setTop (mkF m 7 #[.val (.int p1)] [(.int p1)])) _
    refine XS.iconst X0.here hx rfl (hb hby d_method_3_code_7) ?_
    show Steps p.tables e below (s₁.setTop (mkF m 8 #[.val (.int p1)] [(.int (1 : Int32)), (.int p1)])) _
    refine XS.icmpYes X0.here hx rfl (pc0 := 8) (pc' := 13) rfl (hb hby d_method_3_code_8) rfl (feq hc8).2 (by decide) (by decide) ?_
    show Steps p.tables e below (s₁.setTop (mkF m 13 #[.val (.int p1)] [])) _
    refine XS.iloadN X0.here hx rfl (hb hby d_method_3_code_13) rfl ?_
    show Steps p.tables e below (s₁.setTop (mkF m 14 #[.val (.int p1)] [(.int p1)])) _
    refine XS.iconst X0.here hx rfl (hb hby d_method_3_code_14) ?_
    show Steps p.tables e below (s₁.setTop (mkF m 15 #[.val (.int p1)] [(.int (2 : Int32)), (.int p1)])) _
    refine XS.icmpYes X0.here hx rfl (pc0 := 15) (pc' := 20) rfl (hb hby d_method_3_code_15) rfl (feq hc15).2 (by decide) (by decide) ?_
    show Steps p.tables e below (s₁.setTop (mkF m 20 #[.val (.int p1)] [])) _
    refine XS.iloadN X0.here hx rfl (hb hby d_method_3_code_20) rfl ?_
    show Steps p.tables e below (s₁.setTop (mkF m 21 #[.val (.int p1)] [(.int p1)])) _
    refine XS.iconst X0.here hx rfl (hb hby d_method_3_code_21) ?_
    show Steps p.tables e below (s₁.setTop (mkF m 22 #[.val (.int p1)] [(.int (3 : Int32)), (.int p1)])) _
    refine XS.icmpYes X0.here hx rfl (pc0 := 22) (pc' := 27) rfl (hb hby d_method_3_code_22) rfl (feq hc22).2 (by decide) (by decide) ?_
    show Steps p.tables e below (s₁.setTop (mkF m 27 #[.val (.int p1)] [])) _
    refine XS.iloadN X0.here hx rfl (hb hby d_method_3_code_27) rfl ?_
    show Steps p.tables e below (s₁.setTop (mkF m 28 #[.val (.int p1)] [(.int p1)])) _
    refine XS.iconst X0.here hx rfl (hb hby d_method_3_code_28) ?_
    show Steps p.tables e below (s₁.setTop (mkF m 29 #[.val (.int p1)] [(.int (4 : Int32)), (.int p1)])) _
    refine XS.icmpYes X0.here hx rfl (pc0 := 29) (pc' := 34) rfl (hb hby d_method_3_code_29) rfl (feq hc29).2 (by decide) (by decide) ?_
    show Steps p.tables e below (s₁.setTop (mkF m 34 #[.val (.int p1)] [])) _
    refine XS.iloadN X0.here hx rfl (hb hby d_method_3_code_34) rfl ?_
    show Steps p.tables e below (s₁.setTop (mkF m 35 #[.val (.int p1)] [(.int p1)])) _
    refine XS.iconst X0.here hx rfl (hb hby d_method_3_code_35) ?_
    show Steps p.tables e below (s₁.setTop (mkF m 36 #[.val (.int p1)] [(.int (5 : Int32)), (.int p1)])) _
    refine XS.icmpYes X0.here hx rfl (pc0 := 36) (pc' := 41) rfl (hb hby d_method_3_code_36) rfl (feq hc36).2 (by decide) (by decide) ?_
    show Steps p.tables e below (s₁.setTop (mkF m 41 #[.val (.int p1)] [])) _
    refine XS.iloadN X0.here hx rfl (hb hby d_method_3_code_41) rfl ?_
    show Steps p.tables e below (s₁.setTop (mkF m 42 #[.val (.int p1)] [(.int p1)])) _
    refine XS.bipush X0.here hx rfl (hb hby d_method_3_code_42) ?_
    show Steps p.tables e below (s₁.setTop (mkF m 44 #[.val (.int p1)] [(.int (6 : Int32)), (.int p1)])) _
    refine XS.icmpYes X0.here hx rfl (pc0 := 44) (pc' := 49) rfl (hb hby d_method_3_code_44) rfl (feq hc44).2 (by decide) (by decide) ?_
    show Steps p.tables e below (s₁.setTop (mkF m 49 #[.val (.int p1)] [])) _
    refine XS.iloadN X0.here hx rfl (hb hby d_method_3_code_49) rfl ?_
    show Steps p.tables e below (s₁.setTop (mkF m 50 #[.val (.int p1)] [(.int p1)])) _
    refine XS.bipush X0.here hx rfl (hb hby d_method_3_code_50) ?_
    show Steps p.tables e below (s₁.setTop (mkF m 52 #[.val (.int p1)] [(.int (7 : Int32)), (.int p1)])) _
    refine XS.icmpNo X0.here hx rfl (hb hby d_method_3_code_52) rfl (teq hc52).2 ?_
    show Steps p.tables e below (s₁.setTop (mkF m 55 #[.val (.int p1)] [])) _
    refine XS.iconst X0.here hx rfl (hb hby d_method_3_code_55) ?_
    show Steps p.tables e below (s₁.setTop (mkF m 56 #[.val (.int p1)] [(.int (0 : Int32))])) _
    exact retN X0 hx (t := .boolean) Bd.returns (by simp) (hb hby d_method_3_code_56) hr
  · show Q_rmA Z p1 h0 n0 _ s₁.heap _
    rw [e0]
    exact ⟨by rw [hres], N0, rfl⟩
set_option maxRecDepth 65536 in
set_option maxHeartbeats 40000000 in
theorem rmA_fffffffft (l : Launch) (Z : State) (a0 : Array Value) (hw : ∀ d ∈ tables_1, d.before a0 Z = true) (ws : List Jvm.Cond) (p1 : Int32) (h0 : Heap) (n0 : Nat) (Z0 : n0 ≤ h0.size) (hc1 : ¬ (p1 = (0 : Int32))) (hc8 : ¬ (p1 = (1 : Int32))) (hc15 : ¬ (p1 = (2 : Int32))) (hc22 : ¬ (p1 = (3 : Int32))) (hc29 : ¬ (p1 = (4 : Int32))) (hc36 : ¬ (p1 = (5 : Int32))) (hc44 : ¬ (p1 = (6 : Int32))) (hc52 : ¬ (p1 = (7 : Int32))) (hc60 : p1 = (8 : Int32)) (hres : (own_allow p1) = (1 : Int32)) :
    MetFree l (⟨"com/example/libfiat/libfiat/idl/CategoryDiscriminatesPinLaw", "allowedSwitchType", "(I)Z"⟩ : MethodName) (head1 (Jvm.Cond.code (⟨"com/example/libfiat/libfiat/idl/CategoryDiscriminatesPinLaw", "allowedSwitchType", "(I)Z"⟩ : MethodName) method_3_code 1 (some .boolean) :: ws) ({ frames := 0, cells := 0, slots := 0, locals := 0 } : Room)) (fun a U => a = #[(.int p1)] ∧ Z.Warmed39 U.vm ∧ U.heap = h0) (fun _ _ _ _ _ => True) (fun _ U o U' => ∃ v L, o = .returned v ∧ Q_rmA Z p1 h0 n0 v U'.heap L ∧ FrameEnd U o U' L ({ frames := 0, cells := 0, slots := 0, locals := 0 } : Room).cells ({ frames := 0, cells := 0, slots := 0, locals := 0 } : Room).slots) := by
  refine MetFree.of_bodySF (plainFor_of_name pn_0) hisR ?_
  intro p e s m args below meth c s₁ Bd hml0 hP hK
  obtain ⟨rfl, hZ, hh⟩ := hP
  have hx := Bd.exec
  have hby := Bd.bytes
  have hml : c.maxLocals = 1 := hml0
  have hown : s.vm.findClass "com/example/libfiat/libfiat/idl/CategoryDiscriminatesPinLaw" = some m.cls := findClass_of_methodNamed Bd.named
  have hnm := (name_of_methodNamed Bd.named Bd.method).1
  have X0 : Stand p l e ({ frames := 0, cells := 0, slots := 0, locals := 0 } : Room) s m #[(.int p1)] below meth c s₁ [] 0 0 := Stand.of_body Bd
  have e0 : s₁.heap = h0 := by rw [← hh, Bd.state]; rfl
  have N0 := Fr.nil n0
  have pre0 : ∀ t, Steps p.tables e below (s₁.setTop (mkF m 0 #[.val (.int p1)] [])) t → Steps p.tables e below (s₁.setTop (entryFrame m #[(.int p1)] 1)) t := fun t k => castTop (ef_0 m p1) k
  obtain ⟨fs, hr, hrun, hended, hW, hsame⟩ := X0.leave (v := some (.int (1 : Int32))) (fun h => by rw [Bd.returns] at h; cases h)
  refine ⟨_, _, pre0 _ ?_, hrun, hended, _, _, rfl, ?_, ⟨_, rfl⟩, hW, hsame.mono (by decide) (by decide)⟩
  · show Steps p.tables e below (s₁.setTop (mkF m 0 #[.val (.int p1)] [])) _
    refine XS.iloadN X0.here hx rfl (hb hby d_method_3_code_0) rfl ?_
    show Steps p.tables e below (s₁.setTop (mkF m 1 #[.val (.int p1)] [(.int p1)])) _
    refine XS.ifYes X0.here hx rfl (pc0 := 1) (pc' := 6) rfl (hb hby d_method_3_code_1) rfl ((if0 _ _).trans (feq hc1).2) (by decide) (by decide) ?_
    show Steps p.tables e below (s₁.setTop (mkF m 6 #[.val (.int p1)] [])) _
    refine XS.iloadN X0.here hx rfl (hb hby d_method_3_code_6) rfl ?_
    show Steps p.tables e below (s₁.setTop (mkF m 7 #[.val (.int p1)] [(.int p1)])) _
    refine XS.iconst X0.here hx rfl (hb hby d_method_3_code_7) ?_
    show Steps p.tables e below (s₁.setTop (mkF m 8 #[.val (.int p1)] [(.int (1 : Int32)), (.int p1)])) _
    refine XS.icmpYes X0.here hx rfl (pc0 := 8) (pc' := 13) rfl (hb hby d_method_3_code_8) rfl (feq hc8).2 (by decide) (by decide) ?_
    show Steps p.tables e below (s₁.setTop (mkF m 13 #[.val (.int p1)] [])) _
    refine XS.iloadN X0.here hx rfl (hb hby d_method_3_code_13) rfl ?_
    show Steps p.tables e below (s₁.setTop (mkF m 14 #[.val (.int p1)] [(.int p1)])) _
    refine XS.iconst X0.here hx rfl (hb hby d_method_3_code_14) ?_
    show Steps p.tables e below (s₁.setTop (mkF m 15 #[.val (.int p1)] [(.int (2 : Int32)), (.int p1)])) _
    refine XS.icmpYes X0.here hx rfl (pc0 := 15) (pc' := 20) rfl (hb hby d_method_3_code_15) rfl (feq hc15).2 (by decide) (by decide) ?_
    show Steps p.tables e below (s₁.setTop (mkF m 20 #[.val (.int p1)] [])) _
    refine XS.iloadN X0.here hx rfl (hb hby d_method_3_code_20) rfl ?_
    show Steps p.tables e below (s₁.setTop (mkF m 21 #[.val (.int p1)] [(.int p1)])) _
    refine XS.iconst X0.here hx rfl (hb hby d_method_3_code_21) ?_
    show Steps p.tables e below (s₁.setTop (mkF m 22 #[.val (.int p1)] [(.int (3 : Int32)), (.int p1)])) _
    refine XS.icmpYes X0.here hx rfl (pc0 := 22) (pc' := 27) rfl (hb hby d_method_3_code_22) rfl (feq hc22).2 (by decide) (by decide) ?_
    show Steps p.tables e below (s₁.setTop (mkF m 27 #[.val (.int p1)] [])) _
    refine XS.iloadN X0.here hx rfl (hb hby d_method_3_code_27) rfl ?_
    show Steps p.tables e below (s₁.setTop (mkF m 28 #[.val (.int p1)] [(.int p1)])) _
    refine XS.iconst X0.here hx rfl (hb hby d_method_3_code_28) ?_
    show Steps p.tables e below (s₁.setTop (mkF m 29 #[.val (.int p1)] [(.int (4 : Int32)), (.int p1)])) _
    refine XS.icmpYes X0.here hx rfl (pc0 := 29) (pc' := 34) rfl (hb hby d_method_3_code_29) rfl (feq hc29).2 (by decide) (by decide) ?_
    show Steps p.tables e below (s₁.setTop (mkF m 34 #[.val (.int p1)] [])) _
    refine XS.iloadN X0.here hx rfl (hb hby d_method_3_code_34) rfl ?_
    show Steps p.tables e below (s₁.setTop (mkF m 35 #[.val (.int p1)] [(.int p1)])) _
    refine XS.iconst X0.here hx rfl (hb hby d_method_3_code_35) ?_
    show Steps p.tables e below (s₁.setTop (mkF m 36 #[.val (.int p1)] [(.int (5 : Int32)), (.int p1)])) _
    refine XS.icmpYes X0.here hx rfl (pc0 := 36) (pc' := 41) rfl (hb hby d_method_3_code_36) rfl (feq hc36).2 (by decide) (by decide) ?_
    show Steps p.tables e below (s₁.setTop (mkF m 41 #[.val (.int p1)] [])) _
    refine XS.iloadN X0.here hx rfl (hb hby d_method_3_code_41) rfl ?_
    show Steps p.tables e below (s₁.setTop (mkF m 42 #[.val (.int p1)] [(.int p1)])) _
    refine XS.bipush X0.here hx rfl (hb hby d_method_3_code_42) ?_
    show Steps p.tables e below (s₁.setTop (mkF m 44 #[.val (.int p1)] [(.int (6 : Int32)), (.int p1)])) _
    refine XS.icmpYes X0.here hx rfl (pc0 := 44) (pc' := 49) rfl (hb hby d_method_3_code_44) rfl (feq hc44).2 (by decide) (by decide) ?_
    show Steps p.tables e below (s₁.setTop (mkF m 49 #[.val (.int p1)] [])) _
    refine XS.iloadN X0.here hx rfl (hb hby d_method_3_code_49) rfl ?_
    show Steps p.tables e below (s₁.setTop (mkF m 50 #[.val (.int p1)] [(.int p1)])) _
    refine XS.bipush X0.here hx rfl (hb hby d_method_3_code_50) ?_
    show Steps p.tables e below (s₁.setTop (mkF m 52 #[.val (.int p1)] [(.int (7 : Int32)), (.int p1)])) _
    refine XS.icmpYes X0.here hx rfl (pc0 := 52) (pc' := 57) rfl (hb hby d_method_3_code_52) rfl (feq hc52).2 (by decide) (by decide) ?_
    show Steps p.tables e below (s₁.setTop (mkF m 57 #[.val (.int p1)] [])) _
    refine XS.iloadN X0.here hx rfl (hb hby d_method_3_code_57) rfl ?_
    show Steps p.tables e below (s₁.setTop (mkF m 58 #[.val (.int p1)] [(.int p1)])) _
    refine XS.bipush X0.here hx rfl (hb hby d_method_3_code_58) ?_
    show Steps p.tables e below (s₁.setTop (mkF m 60 #[.val (.int p1)] [(.int (8 : Int32)), (.int p1)])) _
    refine XS.icmpNo X0.here hx rfl (hb hby d_method_3_code_60) rfl (teq hc60).2 ?_
    show Steps p.tables e below (s₁.setTop (mkF m 63 #[.val (.int p1)] [])) _
    refine XS.iconst X0.here hx rfl (hb hby d_method_3_code_63) ?_
    show Steps p.tables e below (s₁.setTop (mkF m 64 #[.val (.int p1)] [(.int (1 : Int32))])) _
    exact retN X0 hx (t := .boolean) Bd.returns (by simp) (hb hby d_method_3_code_64) hr
  · show Q_rmA Z p1 h0 n0 _ s₁.heap _
    rw [e0]
    exact ⟨by rw [hres], N0, rfl⟩
set_option maxRecDepth 65536 in
set_option maxHeartbeats 40000000 in
theorem rmA_fffffffff (l : Launch) (Z : State) (a0 : Array Value) (hw : ∀ d ∈ tables_1, d.before a0 Z = true) (ws : List Jvm.Cond) (p1 : Int32) (h0 : Heap) (n0 : Nat) (Z0 : n0 ≤ h0.size) (hc1 : ¬ (p1 = (0 : Int32))) (hc8 : ¬ (p1 = (1 : Int32))) (hc15 : ¬ (p1 = (2 : Int32))) (hc22 : ¬ (p1 = (3 : Int32))) (hc29 : ¬ (p1 = (4 : Int32))) (hc36 : ¬ (p1 = (5 : Int32))) (hc44 : ¬ (p1 = (6 : Int32))) (hc52 : ¬ (p1 = (7 : Int32))) (hc60 : ¬ (p1 = (8 : Int32))) (hres : (own_allow p1) = (0 : Int32)) :
    MetFree l (⟨"com/example/libfiat/libfiat/idl/CategoryDiscriminatesPinLaw", "allowedSwitchType", "(I)Z"⟩ : MethodName) (head1 (Jvm.Cond.code (⟨"com/example/libfiat/libfiat/idl/CategoryDiscriminatesPinLaw", "allowedSwitchType", "(I)Z"⟩ : MethodName) method_3_code 1 (some .boolean) :: ws) ({ frames := 0, cells := 0, slots := 0, locals := 0 } : Room)) (fun a U => a = #[(.int p1)] ∧ Z.Warmed39 U.vm ∧ U.heap = h0) (fun _ _ _ _ _ => True) (fun _ U o U' => ∃ v L, o = .returned v ∧ Q_rmA Z p1 h0 n0 v U'.heap L ∧ FrameEnd U o U' L ({ frames := 0, cells := 0, slots := 0, locals := 0 } : Room).cells ({ frames := 0, cells := 0, slots := 0, locals := 0 } : Room).slots) := by
  refine MetFree.of_bodySF (plainFor_of_name pn_0) hisR ?_
  intro p e s m args below meth c s₁ Bd hml0 hP hK
  obtain ⟨rfl, hZ, hh⟩ := hP
  have hx := Bd.exec
  have hby := Bd.bytes
  have hml : c.maxLocals = 1 := hml0
  have hown : s.vm.findClass "com/example/libfiat/libfiat/idl/CategoryDiscriminatesPinLaw" = some m.cls := findClass_of_methodNamed Bd.named
  have hnm := (name_of_methodNamed Bd.named Bd.method).1
  have X0 : Stand p l e ({ frames := 0, cells := 0, slots := 0, locals := 0 } : Room) s m #[(.int p1)] below meth c s₁ [] 0 0 := Stand.of_body Bd
  have e0 : s₁.heap = h0 := by rw [← hh, Bd.state]; rfl
  have N0 := Fr.nil n0
  have pre0 : ∀ t, Steps p.tables e below (s₁.setTop (mkF m 0 #[.val (.int p1)] [])) t → Steps p.tables e below (s₁.setTop (entryFrame m #[(.int p1)] 1)) t := fun t k => castTop (ef_0 m p1) k
  obtain ⟨fs, hr, hrun, hended, hW, hsame⟩ := X0.leave (v := some (.int (0 : Int32))) (fun h => by rw [Bd.returns] at h; cases h)
  refine ⟨_, _, pre0 _ ?_, hrun, hended, _, _, rfl, ?_, ⟨_, rfl⟩, hW, hsame.mono (by decide) (by decide)⟩
  · show Steps p.tables e below (s₁.setTop (mkF m 0 #[.val (.int p1)] [])) _
    refine XS.iloadN X0.here hx rfl (hb hby d_method_3_code_0) rfl ?_
    show Steps p.tables e below (s₁.setTop (mkF m 1 #[.val (.int p1)] [(.int p1)])) _
    refine XS.ifYes X0.here hx rfl (pc0 := 1) (pc' := 6) rfl (hb hby d_method_3_code_1) rfl ((if0 _ _).trans (feq hc1).2) (by decide) (by decide) ?_
    show Steps p.tables e below (s₁.setTop (mkF m 6 #[.val (.int p1)] [])) _
    refine XS.iloadN X0.here hx rfl (hb hby d_method_3_code_6) rfl ?_
    show Steps p.tables e below (s₁.setTop (mkF m 7 #[.val (.int p1)] [(.int p1)])) _
    refine XS.iconst X0.here hx rfl (hb hby d_method_3_code_7) ?_
    show Steps p.tables e below (s₁.setTop (mkF m 8 #[.val (.int p1)] [(.int (1 : Int32)), (.int p1)])) _
    refine XS.icmpYes X0.here hx rfl (pc0 := 8) (pc' := 13) rfl (hb hby d_method_3_code_8) rfl (feq hc8).2 (by decide) (by decide) ?_
    show Steps p.tables e below (s₁.setTop (mkF m 13 #[.val (.int p1)] [])) _
    refine XS.iloadN X0.here hx rfl (hb hby d_method_3_code_13) rfl ?_
    show Steps p.tables e below (s₁.setTop (mkF m 14 #[.val (.int p1)] [(.int p1)])) _
    refine XS.iconst X0.here hx rfl (hb hby d_method_3_code_14) ?_
    show Steps p.tables e below (s₁.setTop (mkF m 15 #[.val (.int p1)] [(.int (2 : Int32)), (.int p1)])) _
    refine XS.icmpYes X0.here hx rfl (pc0 := 15) (pc' := 20) rfl (hb hby d_method_3_code_15) rfl (feq hc15).2 (by decide) (by decide) ?_
    show Steps p.tables e below (s₁.setTop (mkF m 20 #[.val (.int p1)] [])) _
    refine XS.iloadN X0.here hx rfl (hb hby d_method_3_code_20) rfl ?_
    show Steps p.tables e below (s₁.setTop (mkF m 21 #[.val (.int p1)] [(.int p1)])) _
    refine XS.iconst X0.here hx rfl (hb hby d_method_3_code_21) ?_
    show Steps p.tables e below (s₁.setTop (mkF m 22 #[.val (.int p1)] [(.int (3 : Int32)), (.int p1)])) _
    refine XS.icmpYes X0.here hx rfl (pc0 := 22) (pc' := 27) rfl (hb hby d_method_3_code_22) rfl (feq hc22).2 (by decide) (by decide) ?_
    show Steps p.tables e below (s₁.setTop (mkF m 27 #[.val (.int p1)] [])) _
    refine XS.iloadN X0.here hx rfl (hb hby d_method_3_code_27) rfl ?_
    show Steps p.tables e below (s₁.setTop (mkF m 28 #[.val (.int p1)] [(.int p1)])) _
    refine XS.iconst X0.here hx rfl (hb hby d_method_3_code_28) ?_
    show Steps p.tables e below (s₁.setTop (mkF m 29 #[.val (.int p1)] [(.int (4 : Int32)), (.int p1)])) _
    refine XS.icmpYes X0.here hx rfl (pc0 := 29) (pc' := 34) rfl (hb hby d_method_3_code_29) rfl (feq hc29).2 (by decide) (by decide) ?_
    show Steps p.tables e below (s₁.setTop (mkF m 34 #[.val (.int p1)] [])) _
    refine XS.iloadN X0.here hx rfl (hb hby d_method_3_code_34) rfl ?_
    show Steps p.tables e below (s₁.setTop (mkF m 35 #[.val (.int p1)] [(.int p1)])) _
    refine XS.iconst X0.here hx rfl (hb hby d_method_3_code_35) ?_
    show Steps p.tables e below (s₁.setTop (mkF m 36 #[.val (.int p1)] [(.int (5 : Int32)), (.int p1)])) _
    refine XS.icmpYes X0.here hx rfl (pc0 := 36) (pc' := 41) rfl (hb hby d_method_3_code_36) rfl (feq hc36).2 (by decide) (by decide) ?_
    show Steps p.tables e below (s₁.setTop (mkF m 41 #[.val (.int p1)] [])) _
    refine XS.iloadN X0.here hx rfl (hb hby d_method_3_code_41) rfl ?_
    show Steps p.tables e below (s₁.setTop (mkF m 42 #[.val (.int p1)] [(.int p1)])) _
    refine XS.bipush X0.here hx rfl (hb hby d_method_3_code_42) ?_
    show Steps p.tables e below (s₁.setTop (mkF m 44 #[.val (.int p1)] [(.int (6 : Int32)), (.int p1)])) _
    refine XS.icmpYes X0.here hx rfl (pc0 := 44) (pc' := 49) rfl (hb hby d_method_3_code_44) rfl (feq hc44).2 (by decide) (by decide) ?_
    show Steps p.tables e below (s₁.setTop (mkF m 49 #[.val (.int p1)] [])) _
    refine XS.iloadN X0.here hx rfl (hb hby d_method_3_code_49) rfl ?_
    show Steps p.tables e below (s₁.setTop (mkF m 50 #[.val (.int p1)] [(.int p1)])) _
    refine XS.bipush X0.here hx rfl (hb hby d_method_3_code_50) ?_
    show Steps p.tables e below (s₁.setTop (mkF m 52 #[.val (.int p1)] [(.int (7 : Int32)), (.int p1)])) _
    refine XS.icmpYes X0.here hx rfl (pc0 := 52) (pc' := 57) rfl (hb hby d_method_3_code_52) rfl (feq hc52).2 (by decide) (by decide) ?_
    show Steps p.tables e below (s₁.setTop (mkF m 57 #[.val (.int p1)] [])) _
    refine XS.iloadN X0.here hx rfl (hb hby d_method_3_code_57) rfl ?_
    show Steps p.tables e below (s₁.setTop (mkF m 58 #[.val (.int p1)] [(.int p1)])) _
    refine XS.bipush X0.here hx rfl (hb hby d_method_3_code_58) ?_
    show Steps p.tables e below (s₁.setTop (mkF m 60 #[.val (.int p1)] [(.int (8 : Int32)), (.int p1)])) _
    refine XS.icmpYes X0.here hx rfl (pc0 := 60) (pc' := 65) rfl (hb hby d_method_3_code_60) rfl (feq hc60).2 (by decide) (by decide) ?_
    show Steps p.tables e below (s₁.setTop (mkF m 65 #[.val (.int p1)] [])) _
    refine XS.iconst X0.here hx rfl (hb hby d_method_3_code_65) ?_
    show Steps p.tables e below (s₁.setTop (mkF m 66 #[.val (.int p1)] [(.int (0 : Int32))])) _
    exact retN X0 hx (t := .boolean) Bd.returns (by simp) (hb hby d_method_3_code_66) hr
  · show Q_rmA Z p1 h0 n0 _ s₁.heap _
    rw [e0]
    exact ⟨by rw [hres], N0, rfl⟩
theorem rmA (l : Launch) (Z : State) (a0 : Array Value) (hw : ∀ d ∈ tables_1, d.before a0 Z = true) (ws : List Jvm.Cond) (p1 : Int32) (h0 : Heap) (n0 : Nat) (Z0 : n0 ≤ h0.size) :
    MetFree l (⟨"com/example/libfiat/libfiat/idl/CategoryDiscriminatesPinLaw", "allowedSwitchType", "(I)Z"⟩ : MethodName) (head1 (Jvm.Cond.code (⟨"com/example/libfiat/libfiat/idl/CategoryDiscriminatesPinLaw", "allowedSwitchType", "(I)Z"⟩ : MethodName) method_3_code 1 (some .boolean) :: ws) ({ frames := 0, cells := 0, slots := 0, locals := 0 } : Room)) (fun a U => a = #[(.int p1)] ∧ Z.Warmed39 U.vm ∧ U.heap = h0) (fun _ _ _ _ _ => True) (fun _ U o U' => ∃ v L, o = .returned v ∧ Q_rmA Z p1 h0 n0 v U'.heap L ∧ FrameEnd U o U' L ({ frames := 0, cells := 0, slots := 0, locals := 0 } : Room).cells ({ frames := 0, cells := 0, slots := 0, locals := 0 } : Room).slots) := by
  by_cases hc1 : p1 = (0 : Int32)
  · skip
    exact rmA_t l Z a0 hw ws p1 h0 n0 Z0 hc1 (by unfold own_allow; simp [*])
  · skip
    by_cases hc8 : p1 = (1 : Int32)
    · skip
      exact rmA_ft l Z a0 hw ws p1 h0 n0 Z0 hc1 hc8 (by unfold own_allow; simp [*])
    · skip
      by_cases hc15 : p1 = (2 : Int32)
      · skip
        exact rmA_fft l Z a0 hw ws p1 h0 n0 Z0 hc1 hc8 hc15 (by unfold own_allow; simp [*])
      · skip
        by_cases hc22 : p1 = (3 : Int32)
        · skip
          exact rmA_ffft l Z a0 hw ws p1 h0 n0 Z0 hc1 hc8 hc15 hc22 (by unfold own_allow; simp [*])
        · skip
          by_cases hc29 : p1 = (4 : Int32)
          · skip
            exact rmA_fffft l Z a0 hw ws p1 h0 n0 Z0 hc1 hc8 hc15 hc22 hc29 (by unfold own_allow; simp [*])
          · skip
            by_cases hc36 : p1 = (5 : Int32)
            · skip
              exact rmA_ffffft l Z a0 hw ws p1 h0 n0 Z0 hc1 hc8 hc15 hc22 hc29 hc36 (by unfold own_allow; simp [*])
            · skip
              by_cases hc44 : p1 = (6 : Int32)
              · skip
                exact rmA_fffffft l Z a0 hw ws p1 h0 n0 Z0 hc1 hc8 hc15 hc22 hc29 hc36 hc44 (by unfold own_allow; simp [*])
              · skip
                by_cases hc52 : p1 = (7 : Int32)
                · skip
                  exact rmA_ffffffft l Z a0 hw ws p1 h0 n0 Z0 hc1 hc8 hc15 hc22 hc29 hc36 hc44 hc52 (by unfold own_allow; simp [*])
                · skip
                  by_cases hc60 : p1 = (8 : Int32)
                  · skip
                    exact rmA_fffffffft l Z a0 hw ws p1 h0 n0 Z0 hc1 hc8 hc15 hc22 hc29 hc36 hc44 hc52 hc60 (by unfold own_allow; simp [*])
                  · skip
                    exact rmA_fffffffff l Z a0 hw ws p1 h0 n0 Z0 hc1 hc8 hc15 hc22 hc29 hc36 hc44 hc52 hc60 (by unfold own_allow; simp [*])
theorem pd_0 : parseMethodDescriptor "(I)Lcom/example/libfiat/libfiat/idl/IdlType$Category;" = some ⟨[.int], some (.object "com/example/libfiat/libfiat/idl/IdlType$Category")⟩ := by decide +kernel
theorem pd_1 : parseMethodDescriptor "()Z" = some ⟨[], some .boolean⟩ := by decide +kernel
theorem pd_2 : parseMethodDescriptor "(I)Z" = some ⟨[.int], some .boolean⟩ := by decide +kernel
def Q_rm0 (Z : State) (p1 : Int32) (c0 : Addr) (c1 : Addr) (c2 : Addr) (c3 : Addr) (c4 : Addr) (c5 : Addr) (c6 : Addr) (c7 : Addr) (c8 : Addr) (c9 : Addr) (h0 : Heap) (n0 : Nat) (v : Option Value) (h : Heap) (L : List Loc) : Prop := v = some (.int (1 : Int32)) ∧ Fr n0 L ∧ h = h0
theorem ef_2 (m : MethodId) (x0 : Int32) : entryFrame m #[(.int x0)] maxLocals = mkF m 0 #[.val (.int x0), .unset, .unset] [] := by first | (simp [entryFrame, mkF, argsToLocals, Value.category, maxLocals]; done) | rfl
set_option maxRecDepth 65536 in
set_option maxHeartbeats 40000000 in
theorem rm0 (l : Launch) (Z : State) (a0 : Array Value) (hw : ∀ d ∈ tables_1, d.before a0 Z = true) (ws : List Jvm.Cond) (p1 : Int32) (c0 : Addr) (c1 : Addr) (c2 : Addr) (c3 : Addr) (c4 : Addr) (c5 : Addr) (c6 : Addr) (c7 : Addr) (c8 : Addr) (c9 : Addr) (h0 : Heap) (n0 : Nat) (Z0 : n0 ≤ h0.size) (S_INTEGER_ : Sta Z h0 "com/example/libfiat/libfiat/idl/IdlType$Category" "INTEGER" "Lcom/example/libfiat/libfiat/idl/IdlType$Category;" (.ref c0)) (S_FLOATING_ : Sta Z h0 "com/example/libfiat/libfiat/idl/IdlType$Category" "FLOATING" "Lcom/example/libfiat/libfiat/idl/IdlType$Category;" (.ref c1)) (S_FIXED_ : Sta Z h0 "com/example/libfiat/libfiat/idl/IdlType$Category" "FIXED" "Lcom/example/libfiat/libfiat/idl/IdlType$Category;" (.ref c2)) (S_CHARACTER_ : Sta Z h0 "com/example/libfiat/libfiat/idl/IdlType$Category" "CHARACTER" "Lcom/example/libfiat/libfiat/idl/IdlType$Category;" (.ref c3)) (S_WIDE_CHARACTER_ : Sta Z h0 "com/example/libfiat/libfiat/idl/IdlType$Category" "WIDE_CHARACTER" "Lcom/example/libfiat/libfiat/idl/IdlType$Category;" (.ref c4)) (S_BOOLEAN_ : Sta Z h0 "com/example/libfiat/libfiat/idl/IdlType$Category" "BOOLEAN" "Lcom/example/libfiat/libfiat/idl/IdlType$Category;" (.ref c5)) (S_STRING_ : Sta Z h0 "com/example/libfiat/libfiat/idl/IdlType$Category" "STRING" "Lcom/example/libfiat/libfiat/idl/IdlType$Category;" (.ref c6)) (S_WIDE_STRING_ : Sta Z h0 "com/example/libfiat/libfiat/idl/IdlType$Category" "WIDE_STRING" "Lcom/example/libfiat/libfiat/idl/IdlType$Category;" (.ref c7)) (S_ENUMERATION_ : Sta Z h0 "com/example/libfiat/libfiat/idl/IdlType$Category" "ENUMERATION" "Lcom/example/libfiat/libfiat/idl/IdlType$Category;" (.ref c8)) (S_NONE_ : Sta Z h0 "com/example/libfiat/libfiat/idl/IdlType$Category" "NONE" "Lcom/example/libfiat/libfiat/idl/IdlType$Category;" (.ref c9)) (E_c0 : Exa Z h0 c0 "com/example/libfiat/libfiat/idl/IdlType$Category") (E_c1 : Exa Z h0 c1 "com/example/libfiat/libfiat/idl/IdlType$Category") (E_c2 : Exa Z h0 c2 "com/example/libfiat/libfiat/idl/IdlType$Category") (E_c3 : Exa Z h0 c3 "com/example/libfiat/libfiat/idl/IdlType$Category") (E_c4 : Exa Z h0 c4 "com/example/libfiat/libfiat/idl/IdlType$Category") (E_c5 : Exa Z h0 c5 "com/example/libfiat/libfiat/idl/IdlType$Category") (E_c6 : Exa Z h0 c6 "com/example/libfiat/libfiat/idl/IdlType$Category") (E_c7 : Exa Z h0 c7 "com/example/libfiat/libfiat/idl/IdlType$Category") (E_c8 : Exa Z h0 c8 "com/example/libfiat/libfiat/idl/IdlType$Category") (E_c9 : Exa Z h0 c9 "com/example/libfiat/libfiat/idl/IdlType$Category") (hlaw : (own_disc (own_pick (own_i p1) c0 c1 c2 c3 c4 c5 c6 c7 c8 c9) c0 c3 c4 c5 c8) = (own_allow (own_i p1))) :
    MetFree l x (head1 (Jvm.Cond.code x code maxLocals ret :: ws) room_1) (fun a U => a = #[(.int p1)] ∧ Z.Warmed39 U.vm ∧ U.heap = h0) (fun _ _ _ _ _ => True) (fun _ U o U' => ∃ v L, o = .returned v ∧ Q_rm0 Z p1 c0 c1 c2 c3 c4 c5 c6 c7 c8 c9 h0 n0 v U'.heap L ∧ FrameEnd U o U' L room_1.cells room_1.slots) := by
  refine MetFree.of_bodySF (plainFor_of_name pn_0) hisR ?_
  intro p e s m args below meth c s₁ Bd hml0 hP hK
  obtain ⟨rfl, hZ, hh⟩ := hP
  have hx := Bd.exec
  have hby := Bd.bytes
  have hml : c.maxLocals = 3 := hml0
  have hown : s.vm.findClass "com/example/libfiat/libfiat/idl/CategoryDiscriminatesPinLaw" = some m.cls := findClass_of_methodNamed Bd.named
  have hnm := (name_of_methodNamed Bd.named Bd.method).1
  have X0 : Stand p l e room_1 s m #[(.int p1)] below meth c s₁ [] 0 0 := Stand.of_body Bd
  have e0 : s₁.heap = h0 := by rw [← hh, Bd.state]; rfl
  have N0 := Fr.nil n0
  have pre0 : ∀ t, Steps p.tables e below (s₁.setTop (mkF m 0 #[.val (.int p1), .unset, .unset] [])) t → Steps p.tables e below (s₁.setTop (entryFrame m #[(.int p1)] maxLocals)) t := fun t k => castTop (ef_2 m p1) k
  obtain ⟨_, _, ⟨T1, L1, k1, n1⟩, -, X1, ⟨Lc1, hQ1, l1, y1, z1⟩, st1⟩ := Jvm.LawKit.callS X0 hx (y := (⟨"com/example/libfiat/libfiat/idl/CategoryDiscriminatesPinLaw", "pick", "(I)Lcom/example/libfiat/libfiat/idl/IdlType$Category;"⟩ : MethodName)) hown (mvT hZ (hw _ (List.mem_of_getElem? (i := 1) rfl))) (mvT hZ (hw _ (List.mem_of_getElem? (i := 2) rfl))) (mvT hZ (hw _ (List.mem_of_getElem? (i := 3) rfl))) (mvT hZ (hw _ (List.mem_of_getElem? (i := 4) rfl))) (by decide) (backOf (W := 0) (rmP l Z a0 hw [] (own_i p1) c0 c1 c2 c3 c4 c5 c6 c7 c8 c9 h0 n0 Z0 S_INTEGER_ S_FLOATING_ S_FIXED_ S_CHARACTER_ S_WIDE_CHARACTER_ S_BOOLEAN_ S_STRING_ S_WIDE_STRING_ S_ENUMERATION_ S_NONE_) hZ (hw _ (List.mem_of_getElem? (i := 4) rfl)) (hw _ (List.mem_of_getElem? (i := 3) rfl)) (by decide) (by decide)) (g := (mkF m 9 #[.val (.int p1), .val (.int (own_i p1)), .unset] [(.int (own_i p1))])) rfl (by rw [hml]; rfl) (argsL := [(.int (own_i p1))]) (rest := []) (lenOf pd_0 rfl) rfl (by show 2 * 0 + _ ≤ _; exact Nat.le_of_eq rfl) (hb hby at_9) (fun _ _ => ⟨rfl, e0, (by decide : 0 + 0 ≤ _), (by decide : 0 + 0 ≤ _)⟩)
  dsimp only [Pt.U, Pt.locs, Pt.cells, Pt.slots] at X1 l1 y1 z1 st1 hQ1
  subst l1 y1 z1
  obtain ⟨rfl, N1q, e1⟩ := hQ1
  have N1 := Fr.app N0 N1q
  obtain ⟨cq2, kq2, q2a, q2b, q2c⟩ := isOf hZ e1 (own_pick_exa (own_i p1) E_c0 E_c1 E_c2 E_c3 E_c4 E_c5 E_c6 E_c7 E_c8 E_c9)
  obtain ⟨_, _, ⟨T2, L2, k2, n2⟩, -, X2, ⟨Lc2, hQ2, l2, y2, z2⟩, st2⟩ := X1.virtualBack hx (y := (⟨"com/example/libfiat/libfiat/idl/IdlType$Category", "discriminates", "()Z"⟩ : MethodName)) (z := (⟨"com/example/libfiat/libfiat/idl/IdlType$Category", "discriminates", "()Z"⟩ : MethodName)) hown (mvT hZ (hw _ (List.mem_of_getElem? (i := 8) rfl))) (mvT hZ (hw _ (List.mem_of_getElem? (i := 9) rfl))) (notFace_of_selects (args := #[]) (mvT hZ (hw _ (List.mem_of_getElem? (i := 11) rfl)))) (mvT hZ (hw _ (List.mem_of_getElem? (i := 11) rfl))) (mvT hZ (hw _ (List.mem_of_getElem? (i := 10) rfl))) (by decide) (backOf (W := 0) (rmD l Z a0 hw [] (own_pick (own_i p1) c0 c1 c2 c3 c4 c5 c6 c7 c8 c9) c0 c3 c4 c5 c8 h0 n0 Z0 S_INTEGER_ S_CHARACTER_ S_WIDE_CHARACTER_ S_BOOLEAN_ S_ENUMERATION_) hZ (hw _ (List.mem_of_getElem? (i := 12) rfl)) (hw _ (List.mem_of_getElem? (i := 6) rfl)) (by decide) (by decide)) q2a q2c (g := (mkF m 14 #[.val (.int p1), .val (.int (own_i p1)), .val (.ref (own_pick (own_i p1) c0 c1 c2 c3 c4 c5 c6 c7 c8 c9))] [(.ref (own_pick (own_i p1) c0 c1 c2 c3 c4 c5 c6 c7 c8 c9))])) rfl (by rw [hml]; rfl) (Steps.refl _) (argsL := []) (rest := []) (lenOf pd_1 rfl) rfl (by show 2 * 0 + _ ≤ _; exact Nat.le_of_eq rfl) (hb hby at_14) (fun _ _ => ⟨rfl, e1, (by decide : 0 + 0 ≤ _), (by decide : 0 + 0 ≤ _)⟩)
  dsimp only [Pt.U, Pt.locs, Pt.cells, Pt.slots] at X2 l2 y2 z2 st2 hQ2
  subst l2 y2 z2
  obtain ⟨rfl, N2q, e2⟩ := hQ2
  have N2 := Fr.app N1 N2q
  obtain ⟨_, _, ⟨T3, L3, k3, n3⟩, -, X3, ⟨Lc3, hQ3, l3, y3, z3⟩, st3⟩ := Jvm.LawKit.callS X2 hx (y := (⟨"com/example/libfiat/libfiat/idl/CategoryDiscriminatesPinLaw", "allowedSwitchType", "(I)Z"⟩ : MethodName)) hown (mvT hZ (hw _ (List.mem_of_getElem? (i := 14) rfl))) (mvT hZ (hw _ (List.mem_of_getElem? (i := 15) rfl))) (mvT hZ (hw _ (List.mem_of_getElem? (i := 3) rfl))) (mvT hZ (hw _ (List.mem_of_getElem? (i := 16) rfl))) (by decide) (backOf (W := 1) (rmA l Z a0 hw [] (own_i p1) h0 n0 Z0 ) hZ (hw _ (List.mem_of_getElem? (i := 16) rfl)) (hw _ (List.mem_of_getElem? (i := 3) rfl)) (by decide) (by decide)) (g := (mkF m 18 #[.val (.int p1), .val (.int (own_i p1)), .val (.ref (own_pick (own_i p1) c0 c1 c2 c3 c4 c5 c6 c7 c8 c9))] [(.int (own_i p1)), (.int (own_disc (own_pick (own_i p1) c0 c1 c2 c3 c4 c5 c6 c7 c8 c9) c0 c3 c4 c5 c8))])) rfl (by rw [hml]; rfl) (argsL := [(.int (own_i p1))]) (rest := [(.int (own_disc (own_pick (own_i p1) c0 c1 c2 c3 c4 c5 c6 c7 c8 c9) c0 c3 c4 c5 c8))]) (lenOf pd_2 rfl) rfl (by show 2 * 0 + _ ≤ _; exact Nat.le_of_eq rfl) (hb hby at_18) (fun _ _ => ⟨rfl, e2, (by decide : 0 + 0 ≤ _), (by decide : 0 + 0 ≤ _)⟩)
  dsimp only [Pt.U, Pt.locs, Pt.cells, Pt.slots] at X3 l3 y3 z3 st3 hQ3
  subst l3 y3 z3
  obtain ⟨rfl, N3q, e3⟩ := hQ3
  have N3 := Fr.app N2 N3q
  obtain ⟨fs, hr, hrun, hended, hW, hsame⟩ := X3.leave (v := some (.int (1 : Int32))) (fun h => by rw [Bd.returns] at h; cases h)
  refine ⟨_, _, pre0 _ ?_, hrun, hended, _, _, rfl, ?_, ⟨_, rfl⟩, hW, hsame.mono (by decide) (by decide)⟩
  · show Steps p.tables e below (s₁.setTop (mkF m 0 #[.val (.int p1), .unset, .unset] [])) _
    refine XS.iloadN X0.here hx rfl (hb hby at_0) rfl ?_
    show Steps p.tables e below (s₁.setTop (mkF m 1 #[.val (.int p1), .unset, .unset] [(.int p1)])) _
    refine X0.ldcI hx hown (mvT hZ (hw _ (List.mem_of_getElem? (i := 0) rfl))) (g := (mkF m 1 #[.val (.int p1), .unset, .unset] [(.int p1)])) rfl (hb hby at_1) ?_
    show Steps p.tables e below (s₁.setTop (mkF m 3 #[.val (.int p1), .unset, .unset] [(.int (2147483647 : Int32)), (.int p1)])) _
    refine XS.iand X0.here hx rfl (hb hby at_3) rfl ?_
    show Steps p.tables e below (s₁.setTop (mkF m 4 #[.val (.int p1), .unset, .unset] [(.int (p1 &&& (2147483647 : Int32)))])) _
    refine XS.bipush X0.here hx rfl (hb hby at_4) ?_
    show Steps p.tables e below (s₁.setTop (mkF m 6 #[.val (.int p1), .unset, .unset] [(.int (10 : Int32)), (.int (p1 &&& (2147483647 : Int32)))])) _
    refine iremM X0 hx rfl (hb hby at_6) rfl (by decide) ?_
    show Steps p.tables e below (s₁.setTop (mkF m 7 #[.val (.int p1), .unset, .unset] [(.int (own_i p1))])) _
    refine XS.istoreN X0.here hx rfl (hb hby at_7) rfl (l' := #[.val (.int p1), .val (.int (own_i p1)), .unset]) rfl ?_
    show Steps p.tables e below (s₁.setTop (mkF m 8 #[.val (.int p1), .val (.int (own_i p1)), .unset] [])) _
    refine XS.iloadN X0.here hx rfl (hb hby at_8) rfl ?_
    show Steps p.tables e below (s₁.setTop (mkF m 9 #[.val (.int p1), .val (.int (own_i p1)), .unset] [(.int (own_i p1))])) _
    refine st1 _ ?_
    show Steps p.tables e below (T1.setTop (mkF m 12 #[.val (.int p1), .val (.int (own_i p1)), .unset] [(.ref (own_pick (own_i p1) c0 c1 c2 c3 c4 c5 c6 c7 c8 c9))])) _
    refine XS.astoreN X1.here hx rfl (hb hby at_12) rfl rfl (l' := #[.val (.int p1), .val (.int (own_i p1)), .val (.ref (own_pick (own_i p1) c0 c1 c2 c3 c4 c5 c6 c7 c8 c9))]) rfl ?_
    show Steps p.tables e below (T1.setTop (mkF m 13 #[.val (.int p1), .val (.int (own_i p1)), .val (.ref (own_pick (own_i p1) c0 c1 c2 c3 c4 c5 c6 c7 c8 c9))] [])) _
    refine XS.aloadN X1.here hx rfl (hb hby at_13) rfl rfl ?_
    show Steps p.tables e below (T1.setTop (mkF m 14 #[.val (.int p1), .val (.int (own_i p1)), .val (.ref (own_pick (own_i p1) c0 c1 c2 c3 c4 c5 c6 c7 c8 c9))] [(.ref (own_pick (own_i p1) c0 c1 c2 c3 c4 c5 c6 c7 c8 c9))])) _
    refine st2.trans ?_
    show Steps p.tables e below (T2.setTop (mkF m 17 #[.val (.int p1), .val (.int (own_i p1)), .val (.ref (own_pick (own_i p1) c0 c1 c2 c3 c4 c5 c6 c7 c8 c9))] [(.int (own_disc (own_pick (own_i p1) c0 c1 c2 c3 c4 c5 c6 c7 c8 c9) c0 c3 c4 c5 c8))])) _
    refine XS.iloadN X2.here hx rfl (hb hby at_17) rfl ?_
    show Steps p.tables e below (T2.setTop (mkF m 18 #[.val (.int p1), .val (.int (own_i p1)), .val (.ref (own_pick (own_i p1) c0 c1 c2 c3 c4 c5 c6 c7 c8 c9))] [(.int (own_i p1)), (.int (own_disc (own_pick (own_i p1) c0 c1 c2 c3 c4 c5 c6 c7 c8 c9) c0 c3 c4 c5 c8))])) _
    refine st3 _ ?_
    show Steps p.tables e below (T3.setTop (mkF m 21 #[.val (.int p1), .val (.int (own_i p1)), .val (.ref (own_pick (own_i p1) c0 c1 c2 c3 c4 c5 c6 c7 c8 c9))] [(.int (own_allow (own_i p1))), (.int (own_disc (own_pick (own_i p1) c0 c1 c2 c3 c4 c5 c6 c7 c8 c9) c0 c3 c4 c5 c8))])) _
    refine XS.icmpNo X3.here hx rfl (hb hby at_21) rfl (teq hlaw).2 ?_
    show Steps p.tables e below (T3.setTop (mkF m 24 #[.val (.int p1), .val (.int (own_i p1)), .val (.ref (own_pick (own_i p1) c0 c1 c2 c3 c4 c5 c6 c7 c8 c9))] [])) _
    refine XS.iconst X3.here hx rfl (hb hby at_24) ?_
    show Steps p.tables e below (T3.setTop (mkF m 25 #[.val (.int p1), .val (.int (own_i p1)), .val (.ref (own_pick (own_i p1) c0 c1 c2 c3 c4 c5 c6 c7 c8 c9))] [(.int (1 : Int32))])) _
    refine XS.goto X3.here hx rfl (pc0 := 25) (pc' := 29) rfl (hb hby at_25) (by decide) (by decide) ?_
    show Steps p.tables e below (T3.setTop (mkF m 29 #[.val (.int p1), .val (.int (own_i p1)), .val (.ref (own_pick (own_i p1) c0 c1 c2 c3 c4 c5 c6 c7 c8 c9))] [(.int (1 : Int32))])) _
    exact retN X3 hx (t := .boolean) Bd.returns (by simp) (hb hby at_29) hr
  · show Q_rm0 Z p1 c0 c1 c2 c3 c4 c5 c6 c7 c8 c9 h0 n0 _ T3.heap _
    rw [e3]
    exact ⟨rfl, N3, rfl⟩
set_option maxRecDepth 65536 in
set_option maxHeartbeats 40000000 in
theorem comes_1 {Post : Tables → Env → Array Value → State → Outcome → State → Prop} (hpost : ∀ tb e args s v u, (limb_1_1.after args s (.returned v) u = true ∧ limb_1_2.after args s (.returned v) u = true ∧ True) → FrameEnd s (.returned v) u (Jvm.fieldLocs frame_1_writes args s ++ Jvm.arrayLocs frame_1_arrays args s ++ Jvm.staticLocs frame_1_statics s) 0 0 → Post tb e args s (.returned v) u) :
    ArmFor flags0 classFile x code maxLocals ret World_1 tables_1 room_1 Calls_1 rest_1 Pre_1 Post := by
  intro l hfl _ _ p e ha hc hk s m args below hf hA hF happ hP
  obtain ⟨hcalls, hrest, hpre⟩ := hP
  obtain ⟨-, -, -, hnamed, -, -, -, hat⟩ := (Spec.applies_iff hf).mp happ
  obtain ⟨hg, hn⟩ := and_e (Cond.before_iff.mp (show (Jvm.Cond.and given_1 narrow_1).before args s = true from hpre))
  obtain ⟨g0, gr0⟩ := and_e hg
  obtain ⟨w0, rfl⟩ : ∃ w0 : Value, args = #[w0] := by
    have hs : args.size = 1 := by simpa [Cond.value, given_1] using g0
    obtain ⟨L⟩ := args
    match L, hs with
    | [w0], _ => exact ⟨w0, rfl⟩
  have hw := fun d (hd : d ∈ tables_1) => atoms_spec (ws := Jvm.Cond.code x code maxLocals ret :: tables_1) hat d (List.mem_cons_of_mem _ hd)
  have hfit : Fit s := fun {y c} hc i hi => by
    obtain ⟨ha, rfl⟩ := Array.getElem?_eq_some_iff.mp hc
    have q := List.all_eq_true.mp ((Array.all_eq_true_iff_forall_mem.mp hF) _ (Array.getElem_mem ha)) i (List.mem_range.mpr hi)
    simpa [Array.getElem?_eq_getElem hi] using q
  obtain ⟨i0, ei0⟩ := is_v gr0
  obtain rfl : w0 = (.int i0) := Option.some.inj ei0
  obtain ⟨n1, nr1⟩ := and_e hn
  obtain ⟨n2, nr2⟩ := and_e nr1
  obtain ⟨n3, nr3⟩ := and_e nr2
  obtain ⟨n4, nr4⟩ := and_e nr3
  obtain ⟨n5, nr5⟩ := and_e nr4
  obtain ⟨n6, nr6⟩ := and_e nr5
  obtain ⟨n7, nr7⟩ := and_e nr6
  obtain ⟨n8, nr8⟩ := and_e nr7
  obtain ⟨n9, nr9⟩ := and_e nr8
  obtain ⟨n10, nr10⟩ := and_e nr9
  obtain ⟨n11, nr11⟩ := and_e nr10
  obtain ⟨n12, nr12⟩ := and_e nr11
  obtain ⟨n13, nr13⟩ := and_e nr12
  obtain ⟨n14, nr14⟩ := and_e nr13
  obtain ⟨n15, nr15⟩ := and_e nr14
  obtain ⟨n16, nr16⟩ := and_e nr15
  obtain ⟨n17, nr17⟩ := and_e nr16
  obtain ⟨n18, nr18⟩ := and_e nr17
  obtain ⟨n19, nr19⟩ := and_e nr18
  obtain ⟨c_INTEGER, ev_INTEGER⟩ := exa_v n1
  have E_INTEGER := Exa.start ev_INTEGER n1
  have S_INTEGER := Sta.start ev_INTEGER (Or.inr ⟨(hw _ (List.mem_of_getElem? (i := 6) rfl)), (hw _ (List.mem_of_getElem? (i := 7) rfl))⟩)
  obtain ⟨c_CHARACTER, ev_CHARACTER⟩ := exa_v n2
  have E_CHARACTER := Exa.start ev_CHARACTER n2
  have S_CHARACTER := Sta.start ev_CHARACTER (Or.inr ⟨(hw _ (List.mem_of_getElem? (i := 6) rfl)), (hw _ (List.mem_of_getElem? (i := 18) rfl))⟩)
  obtain ⟨c_FLOATING, ev_FLOATING⟩ := exa_v n5
  have E_FLOATING := Exa.start ev_FLOATING n5
  have S_FLOATING := Sta.start ev_FLOATING (Or.inr ⟨(hw _ (List.mem_of_getElem? (i := 6) rfl)), (hw _ (List.mem_of_getElem? (i := 21) rfl))⟩)
  obtain ⟨c_WIDE_CHARACTER, ev_WIDE_CHARACTER⟩ := exa_v n7
  have E_WIDE_CHARACTER := Exa.start ev_WIDE_CHARACTER n7
  have S_WIDE_CHARACTER := Sta.start ev_WIDE_CHARACTER (Or.inr ⟨(hw _ (List.mem_of_getElem? (i := 6) rfl)), (hw _ (List.mem_of_getElem? (i := 23) rfl))⟩)
  obtain ⟨c_BOOLEAN, ev_BOOLEAN⟩ := exa_v n9
  have E_BOOLEAN := Exa.start ev_BOOLEAN n9
  have S_BOOLEAN := Sta.start ev_BOOLEAN (Or.inr ⟨(hw _ (List.mem_of_getElem? (i := 6) rfl)), (hw _ (List.mem_of_getElem? (i := 25) rfl))⟩)
  obtain ⟨c_ENUMERATION, ev_ENUMERATION⟩ := exa_v n11
  have E_ENUMERATION := Exa.start ev_ENUMERATION n11
  have S_ENUMERATION := Sta.start ev_ENUMERATION (Or.inr ⟨(hw _ (List.mem_of_getElem? (i := 6) rfl)), (hw _ (List.mem_of_getElem? (i := 27) rfl))⟩)
  obtain ⟨c_WIDE_STRING, ev_WIDE_STRING⟩ := exa_v n13
  have E_WIDE_STRING := Exa.start ev_WIDE_STRING n13
  have S_WIDE_STRING := Sta.start ev_WIDE_STRING (Or.inr ⟨(hw _ (List.mem_of_getElem? (i := 6) rfl)), (hw _ (List.mem_of_getElem? (i := 30) rfl))⟩)
  obtain ⟨c_FIXED, ev_FIXED⟩ := exa_v n15
  have E_FIXED := Exa.start ev_FIXED n15
  have S_FIXED := Sta.start ev_FIXED (Or.inr ⟨(hw _ (List.mem_of_getElem? (i := 6) rfl)), (hw _ (List.mem_of_getElem? (i := 32) rfl))⟩)
  obtain ⟨c_NONE, ev_NONE⟩ := exa_v n17
  have E_NONE := Exa.start ev_NONE n17
  have S_NONE := Sta.start ev_NONE (Or.inr ⟨(hw _ (List.mem_of_getElem? (i := 6) rfl)), (hw _ (List.mem_of_getElem? (i := 35) rfl))⟩)
  obtain ⟨c_STRING, ev_STRING⟩ := exa_v n19
  have E_STRING := Exa.start ev_STRING n19
  have S_STRING := Sta.start ev_STRING (Or.inr ⟨(hw _ (List.mem_of_getElem? (i := 6) rfl)), (hw _ (List.mem_of_getElem? (i := 38) rfl))⟩)
  have F_ordinal_CHARACTER := Fld.start (own_eqf n3 ev_CHARACTER)
  have F_ordinal_INTEGER := Fld.start (own_eqf n4 ev_INTEGER)
  have F_ordinal_FLOATING := Fld.start (own_eqf n6 ev_FLOATING)
  have F_ordinal_WIDE_CHARACTER := Fld.start (own_eqf n8 ev_WIDE_CHARACTER)
  have F_ordinal_BOOLEAN := Fld.start (own_eqf n10 ev_BOOLEAN)
  have F_ordinal_ENUMERATION := Fld.start (own_eqf n12 ev_ENUMERATION)
  have F_ordinal_WIDE_STRING := Fld.start (own_eqf n14 ev_WIDE_STRING)
  have F_ordinal_FIXED := Fld.start (own_eqf n16 ev_FIXED)
  have F_ordinal_NONE := Fld.start (own_eqf n18 ev_NONE)
  have F_ordinal_STRING := Fld.start (own_eqf nr19 ev_STRING)
  have hlaw := own_plain (own_i i0) c_INTEGER c_FLOATING c_FIXED c_CHARACTER c_WIDE_CHARACTER c_BOOLEAN c_STRING c_WIDE_STRING c_ENUMERATION c_NONE (Fld.ne F_ordinal_FLOATING F_ordinal_INTEGER (by decide)) (Fld.ne F_ordinal_FLOATING F_ordinal_CHARACTER (by decide)) (Fld.ne F_ordinal_FLOATING F_ordinal_WIDE_CHARACTER (by decide)) (Fld.ne F_ordinal_FLOATING F_ordinal_BOOLEAN (by decide)) (Fld.ne F_ordinal_FLOATING F_ordinal_ENUMERATION (by decide)) (Fld.ne F_ordinal_FIXED F_ordinal_INTEGER (by decide)) (Fld.ne F_ordinal_FIXED F_ordinal_CHARACTER (by decide)) (Fld.ne F_ordinal_FIXED F_ordinal_WIDE_CHARACTER (by decide)) (Fld.ne F_ordinal_FIXED F_ordinal_BOOLEAN (by decide)) (Fld.ne F_ordinal_FIXED F_ordinal_ENUMERATION (by decide)) (Fld.ne F_ordinal_STRING F_ordinal_INTEGER (by decide)) (Fld.ne F_ordinal_STRING F_ordinal_CHARACTER (by decide)) (Fld.ne F_ordinal_STRING F_ordinal_WIDE_CHARACTER (by decide)) (Fld.ne F_ordinal_STRING F_ordinal_BOOLEAN (by decide)) (Fld.ne F_ordinal_STRING F_ordinal_ENUMERATION (by decide)) (Fld.ne F_ordinal_WIDE_STRING F_ordinal_INTEGER (by decide)) (Fld.ne F_ordinal_WIDE_STRING F_ordinal_CHARACTER (by decide)) (Fld.ne F_ordinal_WIDE_STRING F_ordinal_WIDE_CHARACTER (by decide)) (Fld.ne F_ordinal_WIDE_STRING F_ordinal_BOOLEAN (by decide)) (Fld.ne F_ordinal_WIDE_STRING F_ordinal_ENUMERATION (by decide)) (Fld.ne F_ordinal_NONE F_ordinal_INTEGER (by decide)) (Fld.ne F_ordinal_NONE F_ordinal_CHARACTER (by decide)) (Fld.ne F_ordinal_NONE F_ordinal_WIDE_CHARACTER (by decide)) (Fld.ne F_ordinal_NONE F_ordinal_BOOLEAN (by decide)) (Fld.ne F_ordinal_NONE F_ordinal_ENUMERATION (by decide))
  obtain ⟨n, o, h1, h2, h3, _, L, rfl, ⟨rfl, N, -⟩, hq⟩ := rm0 l s _ hw tables_1 i0 c_INTEGER c_FLOATING c_FIXED c_CHARACTER c_WIDE_CHARACTER c_BOOLEAN c_STRING c_WIDE_STRING c_ENUMERATION c_NONE s.heap s.heap.size (Nat.le_refl _) S_INTEGER S_FLOATING S_FIXED S_CHARACTER S_WIDE_CHARACTER S_BOOLEAN S_STRING S_WIDE_STRING S_ENUMERATION S_NONE E_INTEGER E_FLOATING E_FIXED E_CHARACTER E_WIDE_CHARACTER E_BOOLEAN E_STRING E_WIDE_STRING E_ENUMERATION E_NONE hlaw p e ha hc hk s m _ below hf ((Spec.applies_iff_loose hf).mp happ).1 ⟨rfl, State.Warmed39.refl s, rfl⟩ trivial
  refine ⟨n, _, h1, h2, h3, hpost _ _ _ _ _ _ ⟨Cond.after_iff.mpr rfl, Cond.after_iff.mpr (eq_i res_at (Term.int_eval (1)) rfl), trivial⟩ ⟨hq.1, hq.2.1, (hq.2.2.sift fun y hy => Or.inr (N y hy)).mono (by decide) (by decide)⟩⟩
theorem main_1_1 : Claimed_1_1 := comes_1 fun _ _ _ _ _ _ h hF => ⟨h.1, hF⟩
theorem main_1_2 : Claimed_1_2 := comes_1 fun _ _ _ _ _ _ h hF => ⟨h.2.1, hF⟩
end Jvm.Pilot.@@N@@
namespace Jvm.Pilot.@@N@@
open Jvm Jvm.ClassFile Sem Op Lib Jvm.Free Jvm.Stand Jvm.Pilot.@@N@@.Jvm.D
/-! MADE BY PROGRAM (witnessworld.py) out of the Statement's table words and the real class files: 12 classes; the members and pool entries that the words name. The judged class is class 1, her method 3. -/
namespace start1
open Jvm.ClassFile
def u (s : String) : CpInfo := .utf8 (stringToUtf16 s)
/-- a pool by its gaps: so many unusable entries, then the entry; so many at the end -/
def gap : Nat → List CpInfo → List CpInfo
  | 0, r => r
  | n + 1, r => .unusable :: gap n r
def poolList (es : List (Nat × CpInfo)) (last : Nat) : List CpInfo := es.foldr (fun e r => gap e.1 (e.2 :: r)) (gap last [])
def pool (es : List (Nat × CpInfo)) (last : Nat) : Array CpInfo := ⟨poolList es last⟩
def fileOf (pool : Array CpInfo) (this : Nat) (attrs : Array Attribute := #[]) (ms : Array MethodInfo := #[]) (fl : Nat := 33) (sup : Nat := 0) (ifs : Array Nat := #[]) (fds : Array FieldInfo := #[]) : ClassFile where
  minorVersion := 0
  majorVersion := 65
  constantPool := pool
  accessFlags := fl
  thisClass := this
  superClass := sup
  interfaces := ifs
  fields := fds
  methods := ms
  attributes := attrs
def plain (name : String) (sup : Option ClassId) : Class where
  name := name
  kind := .ordinary
  loader := none
  accessFlags := 33
  super := sup
  interfaces := #[]
  cf := none
  fields := #[]
  methods := #[]
  instanceTypes := #[]
  staticTypes := #[]
  resolved := #[]
  callSites := []
  init := .initialized
  statics := none
  mirror := none

def pool0 : Array CpInfo := pool [(5, u "<init>"), (0, u "()V"), (1, .class_ 10), (1, u "java/lang/Object")] 113

def k0m0 : Method := { name := "<init>", desc := "()V", sig := { parameters := [], returnType := none }, accessFlags := 1, code := none }
/-- java/lang/Object -/
def k0 : Class := { plain "java/lang/Object" none with
  accessFlags := 33
  interfaces := #[]
  cf := some (fileOf pool0 8 #[] #[{ accessFlags := 1, nameIndex := 5, descriptorIndex := 6, attributes := #[] }] 33 0 #[] #[])
  fields := #[]
  methods := #[k0m0]
  instanceTypes := #[]
  staticTypes := #[]
  resolved := Array.replicate 124 none
  statics := none }

def pool1 : Array CpInfo := pool [(2, .class_ 4), (1, u "java/lang/Object"), (0, u "<init>"), (0, u "()V"), (0, .fieldref 8 9), (0, .class_ 10), (0, .nameAndType 11 12), (0, u "com/example/libfiat/libfiat/idl/IdlType$Category"), (0, u "INTEGER"), (0, u "Lcom/example/libfiat/libfiat/idl/IdlType$Category;"), (0, .fieldref 8 14), (0, .nameAndType 15 12), (0, u "FLOATING"), (0, .fieldref 8 17), (0, .nameAndType 18 12), (0, u "FIXED"), (0, .fieldref 8 20), (0, .nameAndType 21 12), (0, u "CHARACTER"), (0, .fieldref 8 23), (0, .nameAndType 24 12), (0, u "WIDE_CHARACTER"), (0, .fieldref 8 26), (0, .nameAndType 27 12), (0, u "BOOLEAN"), (0, .fieldref 8 29), (0, .nameAndType 30 12), (0, u "STRING"), (0, .fieldref 8 32), (0, .nameAndType 33 12), (0, u "WIDE_STRING"), (0, .fieldref 8 35), (0, .nameAndType 36 12), (0, u "ENUMERATION"), (0, .fieldref 8 38), (0, .nameAndType 39 12), (0, u "NONE"), (0, .integer 2147483647), (0, .methodref 42 43), (0, .class_ 44), (0, .nameAndType 45 46), (0, u "com/example/libfiat/libfiat/idl/CategoryDiscriminatesPinLaw"), (0, u "pick"), (0, u "(I)Lcom/example/libfiat/libfiat/idl/IdlType$Category;"), (0, .methodref 8 48), (0, .nameAndType 49 50), (0, u "discriminates"), (0, u "()Z"), (0, .methodref 42 52), (0, .nameAndType 53 54), (0, u "allowedSwitchType"), (0, u "(I)Z"), (3, u "law")] 6

def k1m0 : Method := { name := "<init>", desc := "()V", sig := { parameters := [], returnType := none }, accessFlags := 1, code := none }
def k1c1 : Code := { maxStack := 2, maxLocals := 1, code := method_2_code, exceptionTable := #[], attributes := #[] }
def k1m1 : Method := { name := "pick", desc := "(I)Lcom/example/libfiat/libfiat/idl/IdlType$Category;", sig := { parameters := [.int], returnType := some (.object "com/example/libfiat/libfiat/idl/IdlType$Category") }, accessFlags := 10, code := some k1c1 }
def k1c2 : Code := { maxStack := 2, maxLocals := 1, code := method_3_code, exceptionTable := #[], attributes := #[] }
def k1m2 : Method := { name := "allowedSwitchType", desc := "(I)Z", sig := { parameters := [.int], returnType := some .boolean }, accessFlags := 10, code := some k1c2 }
def k1c3 : Code := { maxStack := 2, maxLocals := 3, code := code, exceptionTable := #[], attributes := #[] }
def k1m3 : Method := { name := "law", desc := "(I)Z", sig := { parameters := [.int], returnType := some .boolean }, accessFlags := 9, code := some k1c3 }
/-- com/example/libfiat/libfiat/idl/CategoryDiscriminatesPinLaw -/
def k1 : Class := { plain "com/example/libfiat/libfiat/idl/CategoryDiscriminatesPinLaw" (some 0) with
  accessFlags := 49
  interfaces := #[]
  cf := some (fileOf pool1 42 #[] #[{ accessFlags := 1, nameIndex := 5, descriptorIndex := 6, attributes := #[] }, { accessFlags := 10, nameIndex := 45, descriptorIndex := 46, attributes := #[] }, { accessFlags := 10, nameIndex := 53, descriptorIndex := 54, attributes := #[] }, { accessFlags := 9, nameIndex := 58, descriptorIndex := 54, attributes := #[] }] 49 2 #[] #[])
  fields := #[]
  methods := #[k1m0, k1m1, k1m2, k1m3]
  instanceTypes := #[]
  staticTypes := #[]
  resolved := Array.replicate 65 none
  statics := none }

def pool2 : Array CpInfo := pool [(1, .class_ 2), (0, u "java/lang/constant/Constable"), (0, .class_ 4), (0, u "java/lang/Object")] 6

/-- java/lang/constant/Constable -/
def k2 : Class := { plain "java/lang/constant/Constable" (some 0) with
  accessFlags := 1537
  interfaces := #[]
  cf := some (fileOf pool2 1 #[] #[] 1537 3 #[] #[])
  fields := #[]
  methods := #[]
  instanceTypes := #[]
  staticTypes := #[]
  resolved := Array.replicate 11 none
  statics := none }

def pool3 : Array CpInfo := pool [(1, .class_ 2), (0, u "java/lang/Comparable"), (0, .class_ 4), (0, u "java/lang/Object")] 7

/-- java/lang/Comparable -/
def k3 : Class := { plain "java/lang/Comparable" (some 0) with
  accessFlags := 1537
  interfaces := #[]
  cf := some (fileOf pool3 1 #[] #[] 1537 3 #[] #[])
  fields := #[]
  methods := #[]
  instanceTypes := #[]
  staticTypes := #[]
  resolved := Array.replicate 12 none
  statics := none }

def pool4 : Array CpInfo := pool [(1, .class_ 2), (0, u "java/io/Serializable"), (0, .class_ 4), (0, u "java/lang/Object")] 2

/-- java/io/Serializable -/
def k4 : Class := { plain "java/io/Serializable" (some 0) with
  accessFlags := 1537
  interfaces := #[]
  cf := some (fileOf pool4 1 #[] #[] 1537 3 #[] #[])
  fields := #[]
  methods := #[]
  instanceTypes := #[]
  staticTypes := #[]
  resolved := Array.replicate 7 none
  statics := none }

def pool5 : Array CpInfo := pool [(2, .class_ 4), (1, u "java/lang/Enum"), (0, u "name"), (0, u "Ljava/lang/String;"), (2, u "ordinal"), (0, u "I"), (1, .class_ 14), (1, u "java/lang/Object"), (4, u "hash"), (86, .class_ 108), (1, u "java/lang/Enum$EnumDesc"), (2, .class_ 112), (0, u "java/lang/constant/Constable"), (0, .class_ 114), (0, u "java/lang/Comparable"), (0, .class_ 116), (0, u "java/io/Serializable")] 87

/-- java/lang/Enum -/
def k5 : Class := { plain "java/lang/Enum" (some 0) with
  accessFlags := 1057
  interfaces := #[2, 3, 4]
  cf := some (fileOf pool5 2 #[.nestMembers #[106]] #[] 1057 12 #[111, 113, 115] #[{ accessFlags := 18, nameIndex := 5, descriptorIndex := 6, attributes := #[] }, { accessFlags := 18, nameIndex := 9, descriptorIndex := 10, attributes := #[] }, { accessFlags := 2, nameIndex := 19, descriptorIndex := 10, attributes := #[] }])
  fields := #[{ name := "name", type := (.object "java/lang/String"), accessFlags := 18, slot := 0, constantValue := 0 }, { name := "ordinal", type := .int, accessFlags := 18, slot := 1, constantValue := 0 }, { name := "hash", type := .int, accessFlags := 2, slot := 2, constantValue := 0 }]
  methods := #[]
  instanceTypes := #[(.object "java/lang/String"), .int, .int]
  staticTypes := #[]
  resolved := Array.replicate 204 none
  statics := none }

def pool6 : Array CpInfo := pool [(1, .class_ 2), (0, u "com/example/libfiat/libfiat/idl/IdlType$Category"), (0, .fieldref 1 4), (0, .nameAndType 5 6), (0, u "INTEGER"), (0, u "Lcom/example/libfiat/libfiat/idl/IdlType$Category;"), (2, u "FLOATING"), (2, u "FIXED"), (0, .fieldref 1 14), (0, .nameAndType 15 6), (0, u "CHARACTER"), (0, .fieldref 1 17), (0, .nameAndType 18 6), (0, u "WIDE_CHARACTER"), (0, .fieldref 1 20), (0, .nameAndType 21 6), (0, u "BOOLEAN"), (2, u "STRING"), (2, u "WIDE_STRING"), (0, .fieldref 1 29), (0, .nameAndType 30 6), (0, u "ENUMERATION"), (2, u "NONE"), (2, u "$VALUES"), (0, u "[Lcom/example/libfiat/libfiat/idl/IdlType$Category;"), (6, .class_ 46), (1, u "java/lang/Enum"), (28, u "discriminates"), (0, u "()Z"), (6, .class_ 84), (0, u "com/example/libfiat/libfiat/idl/IdlType")] 2

def k6c0 : Code := { maxStack := 2, maxLocals := 1, code := prog_37_method_4_code, exceptionTable := #[], attributes := #[] }
def k6m0 : Method := { name := "discriminates", desc := "()Z", sig := { parameters := [], returnType := some .boolean }, accessFlags := 0, code := some k6c0 }
/-- com/example/libfiat/libfiat/idl/IdlType$Category -/
def k6 : Class := { plain "com/example/libfiat/libfiat/idl/IdlType$Category" (some 5) with
  accessFlags := 16432
  interfaces := #[]
  cf := some (fileOf pool6 1 #[.nestHost 83] #[{ accessFlags := 0, nameIndex := 75, descriptorIndex := 76, attributes := #[] }] 16432 44 #[] #[{ accessFlags := 16409, nameIndex := 5, descriptorIndex := 6, attributes := #[] }, { accessFlags := 16409, nameIndex := 9, descriptorIndex := 6, attributes := #[] }, { accessFlags := 16409, nameIndex := 12, descriptorIndex := 6, attributes := #[] }, { accessFlags := 16409, nameIndex := 15, descriptorIndex := 6, attributes := #[] }, { accessFlags := 16409, nameIndex := 18, descriptorIndex := 6, attributes := #[] }, { accessFlags := 16409, nameIndex := 21, descriptorIndex := 6, attributes := #[] }, { accessFlags := 16409, nameIndex := 24, descriptorIndex := 6, attributes := #[] }, { accessFlags := 16409, nameIndex := 27, descriptorIndex := 6, attributes := #[] }, { accessFlags := 16409, nameIndex := 30, descriptorIndex := 6, attributes := #[] }, { accessFlags := 16409, nameIndex := 33, descriptorIndex := 6, attributes := #[] }, { accessFlags := 4122, nameIndex := 36, descriptorIndex := 37, attributes := #[] }])
  fields := #[{ name := "INTEGER", type := (.object "com/example/libfiat/libfiat/idl/IdlType$Category"), accessFlags := 16409, slot := 0, constantValue := 0 }, { name := "FLOATING", type := (.object "com/example/libfiat/libfiat/idl/IdlType$Category"), accessFlags := 16409, slot := 1, constantValue := 0 }, { name := "FIXED", type := (.object "com/example/libfiat/libfiat/idl/IdlType$Category"), accessFlags := 16409, slot := 2, constantValue := 0 }, { name := "CHARACTER", type := (.object "com/example/libfiat/libfiat/idl/IdlType$Category"), accessFlags := 16409, slot := 3, constantValue := 0 }, { name := "WIDE_CHARACTER", type := (.object "com/example/libfiat/libfiat/idl/IdlType$Category"), accessFlags := 16409, slot := 4, constantValue := 0 }, { name := "BOOLEAN", type := (.object "com/example/libfiat/libfiat/idl/IdlType$Category"), accessFlags := 16409, slot := 5, constantValue := 0 }, { name := "STRING", type := (.object "com/example/libfiat/libfiat/idl/IdlType$Category"), accessFlags := 16409, slot := 6, constantValue := 0 }, { name := "WIDE_STRING", type := (.object "com/example/libfiat/libfiat/idl/IdlType$Category"), accessFlags := 16409, slot := 7, constantValue := 0 }, { name := "ENUMERATION", type := (.object "com/example/libfiat/libfiat/idl/IdlType$Category"), accessFlags := 16409, slot := 8, constantValue := 0 }, { name := "NONE", type := (.object "com/example/libfiat/libfiat/idl/IdlType$Category"), accessFlags := 16409, slot := 9, constantValue := 0 }, { name := "$VALUES", type := (.array (.object "com/example/libfiat/libfiat/idl/IdlType$Category")), accessFlags := 4122, slot := 10, constantValue := 0 }]
  methods := #[k6m0]
  instanceTypes := #[(.object "java/lang/String"), .int, .int]
  staticTypes := #[(.object "com/example/libfiat/libfiat/idl/IdlType$Category"), (.object "com/example/libfiat/libfiat/idl/IdlType$Category"), (.object "com/example/libfiat/libfiat/idl/IdlType$Category"), (.object "com/example/libfiat/libfiat/idl/IdlType$Category"), (.object "com/example/libfiat/libfiat/idl/IdlType$Category"), (.object "com/example/libfiat/libfiat/idl/IdlType$Category"), (.object "com/example/libfiat/libfiat/idl/IdlType$Category"), (.object "com/example/libfiat/libfiat/idl/IdlType$Category"), (.object "com/example/libfiat/libfiat/idl/IdlType$Category"), (.object "com/example/libfiat/libfiat/idl/IdlType$Category"), (.array (.object "com/example/libfiat/libfiat/idl/IdlType$Category"))]
  resolved := Array.replicate 87 none
  statics := some 0 }

def pool7 : Array CpInfo := pool [(1, u "java/lang/Cloneable"), (0, .class_ 1), (0, u "java/lang/Object"), (0, .class_ 3)] 3

/-- java/lang/Cloneable -/
def k7 : Class := { plain "java/lang/Cloneable" (some 0) with
  accessFlags := 1537
  interfaces := #[]
  cf := some (fileOf pool7 2 #[] #[] 1537 4 #[] #[])
  fields := #[]
  methods := #[]
  instanceTypes := #[]
  staticTypes := #[]
  resolved := Array.replicate 8 none
  statics := none }

/-- the primitive byte -/
def k8 : Class := { plain "byte" none with kind := .primitive 'B', accessFlags := 0x411 }
/-- [B -/
def k9 : Class := { plain "[B" (some 0) with kind := .array 8 .byte, interfaces := #[7, 4], accessFlags := 1041 }

/-- the primitive int -/
def k10 : Class := { plain "int" none with kind := .primitive 'I', accessFlags := 0x411 }
/-- [I -/
def k11 : Class := { plain "[I" (some 0) with kind := .array 10 .int, interfaces := #[7, 4], accessFlags := 1041 }

def heap : Heap := #[{ cls := 6, slots := #[.ref 1, .ref 2, .ref 3, .ref 4, .ref 5, .ref 6, .ref 7, .ref 8, .ref 9, .ref 10, .null], vm := .statics 6 },
  { cls := 6, slots := #[.null, .int 0, .int 0], vm := .none },
  { cls := 6, slots := #[.null, .int 1, .int 0], vm := .none },
  { cls := 6, slots := #[.null, .int 2, .int 0], vm := .none },
  { cls := 6, slots := #[.null, .int 3, .int 0], vm := .none },
  { cls := 6, slots := #[.null, .int 4, .int 0], vm := .none },
  { cls := 6, slots := #[.null, .int 5, .int 0], vm := .none },
  { cls := 6, slots := #[.null, .int 6, .int 0], vm := .none },
  { cls := 6, slots := #[.null, .int 7, .int 0], vm := .none },
  { cls := 6, slots := #[.null, .int 8, .int 0], vm := .none },
  { cls := 6, slots := #[.null, .int 9, .int 0], vm := .none }]
def classes : Array Class := #[k0, k1, k2, k3, k4, k5, k6, k7, k8, k9, k10, k11]
def interned : List (Array UInt16 × Addr) := []
def slotsUsed : Nat := 41
def theMethod : MethodId := ⟨1, 3⟩
def args0 : Array Value := #[.int 5]
def aboutOver (below : List Frame) : State where
  vm := { classes := classes, interned := interned.toArray }
  heap := heap
  slotsUsed := slotsUsed
  threads := #[{ frames := .invoking theMethod args0 :: below }]
def below0 : List Frame := [.native { method := ⟨0, 0⟩, args := #[] }]
def about1 : State := aboutOver below0
def p0 : Program := .bare "" "" ""
def e0 : Env := launch0.env 0 0 0
theorem w_frames : about1.frames = Frame.invoking theMethod args0 :: below0 := rfl
set_option maxRecDepth 65536 in
theorem w_args : argsFit about1.vm theMethod args0 = true := by decide +kernel
set_option maxRecDepth 65536 in
theorem w_heap : heapFits about1 = true := by decide +kernel
set_option maxRecDepth 65536 in
theorem w_runnable : about1.curStatus? = some .runnable := by decide +kernel
set_option maxRecDepth 65536 in
theorem w_alone : about1.alone = true := by decide +kernel
set_option maxRecDepth 65536 in
theorem w_named : about1.methodNamed? x = some theMethod := by decide +kernel
set_option maxRecDepth 65536 in
theorem w_hears : about1.hears theMethod below0 = true := by decide +kernel
set_option maxRecDepth 65536 in
theorem w_ripe : about1.ripe theMethod args0 below0 = true := by decide +kernel
theorem w_running : about1.status = .running := rfl
set_option maxRecDepth 65536 in
theorem w_room : about1.hasRoom e0.platform room_1 = true :=
  launch0.hasRoom_least _ room_1 (by decide +kernel) (by decide +kernel) (by decide +kernel) (by decide +kernel) (by decide +kernel) (by decide +kernel)
theorem allAtoms_all (ts : List Jvm.Cond) (a : Array Jvm.Value) (st : Jvm.State) : (allAtoms ts).before a st = ts.all (fun c => c.before a st) := by
  induction ts with
  | nil => rfl
  | cons c t ih =>
    show (Jvm.Cond.and c (allAtoms t)).before a st = _
    rw [Jvm.Cond.before_and, ih, List.all_cons]
def words1 : List Jvm.Cond := Jvm.Cond.code x code maxLocals ret :: tables_1
/-- a 'code' word, met by the world's own term for the bytes: nothing is compared byte by byte -/
theorem code_word {y : MethodName} {bytes : ByteArray} {mx : Nat} {rt : Option FieldType} {a : Array Value} {s : State} {m : MethodId} {meth : Method} {c : Code} (h1 : s.methodNamed? y = some m) (h2 : s.vm.method? m = some meth) (h3 : meth.code = some c) (h4 : c.code = bytes)
    (h5 : (c.maxLocals == mx && c.exceptionTable.isEmpty && decide (c.maxStack ≤ mostOperands) && decide (meth.sig.returnType = rt) && !meth.locks && decide (parseMethodDescriptor y.desc = some meth.sig)) = true) : (Jvm.Cond.code y bytes mx rt).before a s = true := by
  simp only [Bool.and_eq_true, beq_iff_eq, Bool.not_eq_true', decide_eq_true_eq] at h5
  obtain ⟨⟨⟨⟨⟨g1, g2⟩, g3⟩, g4⟩, g5⟩, g6⟩ := h5
  simp [Cond.before, Cond.holds, Cond.value, h1, h2, h3, h4, g1, g2, g3, g4, g5, g6]
def isCode : Jvm.Cond → Bool
  | .code _ _ _ _ => true
  | _ => false
theorem all_split {L : List Jvm.Cond} {P : Jvm.Cond → Bool} (h1 : L.all (fun c => isCode c || P c) = true) (h2 : ∀ c ∈ L.filter isCode, P c = true) : L.all P = true := by
  refine List.all_eq_true.mpr fun c hc => ?_
  have h := List.all_eq_true.mp h1 c hc
  rcases Bool.eq_false_or_eq_true (isCode c) with hi | hi
  · exact h2 c (List.mem_filter.mpr ⟨hc, hi⟩)
  · simpa [hi] using h
set_option maxRecDepth 65536 in
theorem w_c0 : (Jvm.Cond.code x code maxLocals ret).before args0 about1 = true := code_word (m := ⟨1, 3⟩) (meth := k1m3) (c := k1c3) (by decide +kernel) rfl rfl rfl (by decide +kernel)
set_option maxRecDepth 65536 in
theorem w_c1 : (Jvm.Cond.code ({ cls := "com/example/libfiat/libfiat/idl/CategoryDiscriminatesPinLaw", name := "pick", desc := "(I)Lcom/example/libfiat/libfiat/idl/IdlType$Category;" } : Jvm.MethodName) method_2_code (1 : Nat) (Option.some (Jvm.ClassFile.FieldType.object "com/example/libfiat/libfiat/idl/IdlType$Category"))).before args0 about1 = true := code_word (m := ⟨1, 1⟩) (meth := k1m1) (c := k1c1) (by decide +kernel) rfl rfl rfl (by decide +kernel)
set_option maxRecDepth 65536 in
theorem w_c2 : (Jvm.Cond.code ({ cls := "com/example/libfiat/libfiat/idl/IdlType$Category", name := "discriminates", desc := "()Z" } : Jvm.MethodName) prog_37_method_4_code (1 : Nat) (Option.some Jvm.ClassFile.FieldType.boolean)).before args0 about1 = true := code_word (m := ⟨6, 0⟩) (meth := k6m0) (c := k6c0) (by decide +kernel) rfl rfl rfl (by decide +kernel)
set_option maxRecDepth 65536 in
theorem w_c3 : (Jvm.Cond.code ({ cls := "com/example/libfiat/libfiat/idl/CategoryDiscriminatesPinLaw", name := "allowedSwitchType", desc := "(I)Z" } : Jvm.MethodName) method_3_code (1 : Nat) (Option.some Jvm.ClassFile.FieldType.boolean)).before args0 about1 = true := code_word (m := ⟨1, 2⟩) (meth := k1m2) (c := k1c2) (by decide +kernel) rfl rfl rfl (by decide +kernel)
def codes1 : List Jvm.Cond := [Jvm.Cond.code x code maxLocals ret, Jvm.Cond.code ({ cls := "com/example/libfiat/libfiat/idl/CategoryDiscriminatesPinLaw", name := "pick", desc := "(I)Lcom/example/libfiat/libfiat/idl/IdlType$Category;" } : Jvm.MethodName) method_2_code (1 : Nat) (Option.some (Jvm.ClassFile.FieldType.object "com/example/libfiat/libfiat/idl/IdlType$Category")), Jvm.Cond.code ({ cls := "com/example/libfiat/libfiat/idl/IdlType$Category", name := "discriminates", desc := "()Z" } : Jvm.MethodName) prog_37_method_4_code (1 : Nat) (Option.some Jvm.ClassFile.FieldType.boolean), Jvm.Cond.code ({ cls := "com/example/libfiat/libfiat/idl/CategoryDiscriminatesPinLaw", name := "allowedSwitchType", desc := "(I)Z" } : Jvm.MethodName) method_3_code (1 : Nat) (Option.some Jvm.ClassFile.FieldType.boolean)]
set_option maxRecDepth 65536 in
theorem codes_eq : words1.filter isCode = codes1 := rfl
theorem w_codes : ∀ c ∈ words1.filter isCode, c.before args0 about1 = true := by
  rw [codes_eq]
  intro c hc
  simp only [codes1, List.mem_cons, List.not_mem_nil, or_false] at hc
  rcases hc with rfl | rfl | rfl | rfl
  · exact w_c0
  · exact w_c1
  · exact w_c2
  · exact w_c3
set_option maxRecDepth 65536 in
theorem w_t1 : (words1.take 24).all (fun c => isCode c || c.before args0 about1) = true := by decide +kernel
set_option maxRecDepth 65536 in
theorem w_t2 : (words1.drop 24).all (fun c => isCode c || c.before args0 about1) = true := by decide +kernel
theorem w_tables : (allAtoms (Jvm.Cond.code x code maxLocals ret :: tables_1)).before args0 about1 = true := by
  rw [allAtoms_all]
  show words1.all (fun c => c.before args0 about1) = true
  refine all_split ?_ w_codes
  rw [← List.take_append_drop 24 words1, List.all_append, w_t1, w_t2]
  rfl
set_option maxRecDepth 65536 in
theorem w_case : (Jvm.Cond.and given_1 narrow_1).before args0 about1 = true := by decide +kernel
theorem w_applies : (headSpec (Jvm.Cond.code x code maxLocals ret :: tables_1) room_1).applies x e0.platform about1 = true :=
  (Spec.applies_iff w_frames).mpr ⟨w_running, w_runnable, w_alone, w_named, w_hears, w_ripe, w_room, w_tables⟩
theorem atStart : AtStart classFile x code maxLocals ret World_1 tables_1 room_1 Calls_1 rest_1 Pre_1 launch0 p0 e0 about1 theMethod args0 below0 :=
  ⟨lists_1, trivial, launch0.admits_env _ _ _, launch0.least_env, fairChoices_fair.cas, fairChoices_fair.clock, w_frames, w_args, w_heap, w_applies, trivial, trivial, w_case⟩
end start1
theorem witness_1 : WitnessClaimed_1 := ⟨start1.p0, start1.e0, start1.about1, start1.theMethod, start1.args0, start1.below0, start1.atStart⟩
end Jvm.Pilot.@@N@@
