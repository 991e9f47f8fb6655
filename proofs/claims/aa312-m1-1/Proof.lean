import JvmDerived
import JvmDerived.Pilot.@@N@@Statement
import JvmDerived.Pilot.@@N@@Code
set_option linter.unusedVariables false
set_option linter.unusedSimpArgs false
namespace Jvm.RoadKit
open Sem ClassFile Op Lib Jvm.Stand Jvm.Free Jvm.LawKit
section New
variable {p : Program} {l : Launch} {e : Env} {R : Room} {s : State} {m : MethodId} {args : Array Value} {below : List Frame} {meth : Method} {c : Code} {T : State} {locs : List Loc} {cells slots : Nat}
theorem retI (X : Stand p l e R s m args below meth c T locs cells slots) (hx : p.tables.exec = Jvm.exec) {pc : Nat} {Ls : Array Slot} {z : Int32} {rest : List Value} (hret : meth.sig.returnType = some .int) (hd : decode c.code pc = .ok (.ireturn, 1)) {fs : List Frame}
    (hl : ∀ (f : JFrame) (acts : List Action), f.method = m → f.locked = none → f.entered = [] → (doReturn e (T.setTop f) acts (some (.int z))).1 = T.setFrames fs) : Steps p.tables e below (T.setTop (mkF m pc Ls (.int z :: rest))) (T.setFrames fs) := by
  have hm' : T.vm.method? m = some meth := X.method'
  have hn : narrow .int (.int z) = .int z := rfl
  show Steps p.tables e below (T.setTop { method := m, pc := pc, locals := Ls, stack := _ :: rest, locked := none }) _
  jvm_step X.here [X.here.top, hx, hd, hm', hret, hn]
  first | (intro acts; rw [hl _ acts rfl rfl rfl]) | rw [hl _ _ rfl rfl rfl]
  exact Steps.refl _
theorem retD (X : Stand p l e R s m args below meth c T locs cells slots) (hx : p.tables.exec = Jvm.exec) {pc : Nat} {Ls : Array Slot} {z : UInt64} {rest : List Value} (hret : meth.sig.returnType = some .double) (hd : decode c.code pc = .ok (.dreturn, 1)) {fs : List Frame}
    (hl : ∀ (f : JFrame) (acts : List Action), f.method = m → f.locked = none → f.entered = [] → (doReturn e (T.setTop f) acts (some (.double z))).1 = T.setFrames fs) : Steps p.tables e below (T.setTop (mkF m pc Ls (.double z :: rest))) (T.setFrames fs) := by
  have hm' : T.vm.method? m = some meth := X.method'
  have hn : narrow .double (.double z) = .double z := rfl
  show Steps p.tables e below (T.setTop { method := m, pc := pc, locals := Ls, stack := _ :: rest, locked := none }) _
  jvm_step X.here [X.here.top, hx, hd, hm', hret, hn]
  first | (intro acts; rw [hl _ acts rfl rfl rfl]) | rw [hl _ _ rfl rfl rfl]
  exact Steps.refl _
end New
end Jvm.RoadKit
namespace Jvm.Pilot.@@N@@
open Jvm Jvm.ClassFile Sem Op Lib Jvm.Free Jvm.Stand Jvm.LawKit Jvm.RoadKit Bundle Jvm.Pilot.@@N@@.Jvm.D
abbrev own_rng (i : Int32) : Prop := 0 ≤ i.toInt ∧ i.toInt ≤ 17
theorem own_cases {i : Int32} (h : own_rng i) : i = 0 ∨ i = 1 ∨ i = 2 ∨ i = 3 ∨ i = 4 ∨ i = 5 ∨ i = 6 ∨ i = 7 ∨ i = 8 ∨ i = 9 ∨ i = 10 ∨ i = 11 ∨ i = 12 ∨ i = 13 ∨ i = 14 ∨ i = 15 ∨ i = 16 ∨ i = 17 := by
  obtain ⟨h1, h2⟩ := h
  simp only [← Int32.toInt_inj, show (0 : Int32).toInt = 0 from by decide, show (1 : Int32).toInt = 1 from by decide, show (2 : Int32).toInt = 2 from by decide, show (3 : Int32).toInt = 3 from by decide, show (4 : Int32).toInt = 4 from by decide, show (5 : Int32).toInt = 5 from by decide, show (6 : Int32).toInt = 6 from by decide, show (7 : Int32).toInt = 7 from by decide, show (8 : Int32).toInt = 8 from by decide, show (9 : Int32).toInt = 9 from by decide, show (10 : Int32).toInt = 10 from by decide, show (11 : Int32).toInt = 11 from by decide, show (12 : Int32).toInt = 12 from by decide, show (13 : Int32).toInt = 13 from by decide, show (14 : Int32).toInt = 14 from by decide, show (15 : Int32).toInt = 15 from by decide, show (16 : Int32).toInt = 16 from by decide, show (17 : Int32).toInt = 17 from by decide]
  omega
theorem own_last {i : Int32} (h : own_rng i) (h0 : ¬ i = 0) (h1 : ¬ i = 1) (h2 : ¬ i = 2) (h3 : ¬ i = 3) (h4 : ¬ i = 4) (h5 : ¬ i = 5) (h6 : ¬ i = 6) (h7 : ¬ i = 7) (h8 : ¬ i = 8) (h9 : ¬ i = 9) (h10 : ¬ i = 10) (h11 : ¬ i = 11) (h12 : ¬ i = 12) (h13 : ¬ i = 13) (h14 : ¬ i = 14) (h15 : ¬ i = 15) (h16 : ¬ i = 16) : i = 17 := by
  rcases own_cases h with rfl | rfl | rfl | rfl | rfl | rfl | rfl | rfl | rfl | rfl | rfl | rfl | rfl | rfl | rfl | rfl | rfl | rfl
  · exact absurd rfl h0
  · exact absurd rfl h1
  · exact absurd rfl h2
  · exact absurd rfl h3
  · exact absurd rfl h4
  · exact absurd rfl h5
  · exact absurd rfl h6
  · exact absurd rfl h7
  · exact absurd rfl h8
  · exact absurd rfl h9
  · exact absurd rfl h10
  · exact absurd rfl h11
  · exact absurd rfl h12
  · exact absurd rfl h13
  · exact absurd rfl h14
  · exact absurd rfl h15
  · exact absurd rfl h16
  · rfl
def own_k (x : Int32) : Int32 := (x &&& (2147483647 : Int32)) - ((x &&& (2147483647 : Int32)) / (18 : Int32)) * (18 : Int32)
theorem own_k_rng (x : Int32) : own_rng (own_k x) := by
  have h := c_mask x 2147483647 31 (by decide) (by decide)
  have e : ((2 ^ 31 : Nat) : Int) = 2147483648 := by decide
  rw [e] at h
  unfold own_k own_rng
  generalize (x &&& (2147483647 : Int32)) = a at *
  have h1 := (c_idiv a 18 18 (by decide) (by decide)).1 (by omega)
  have h2 := c_imul (a / 18) 18
  have e18 : (18 : Int32).toInt = 18 := by decide
  rw [e18] at h2
  have h3 := c_isub a (a / 18 * 18)
  have h4 := rng32 (a / 18 * 18)
  have h5 := rng32 (a - a / 18 * 18)
  omega
def own_n (a z : Int32) : Int32 := if (z &&& (1 : Int32)) = (0 : Int32) then a else (0 : Int32)
def own_rc (k n : Int32) : Int32 := if k = (10 : Int32) then 1 else if n = (0 : Int32) then (if k = (6 : Int32) then 1 else if k = (7 : Int32) then 1 else 0) else 0
def own_r (c0 c1 c2 c3 c4 c5 c6 c7 c8 c9 c10 c11 c12 c13 c14 c15 c16 c17 : Addr) (i : Int32) : Addr := if i = 0 then c0 else if i = 1 then c1 else if i = 2 then c2 else if i = 3 then c3 else if i = 4 then c4 else if i = 5 then c5 else if i = 6 then c6 else if i = 7 then c7 else if i = 8 then c8 else if i = 9 then c9 else if i = 10 then c10 else if i = 11 then c11 else if i = 12 then c12 else if i = 13 then c13 else if i = 14 then c14 else if i = 15 then c15 else if i = 16 then c16 else c17
theorem own_fldI {t : Term} {k : Int32} {args : Array Value} {first s : State} {o : Option Outcome} {idx : List Nat} {C n d : String} {x : Addr} (ev : t.eval args first o idx s = some (.ref x)) (h : (Jvm.Cond.eq (.field t C n d) (.int k)).value args first o s idx = some true) : s.fieldOf? x C n d = some (.int k) := by
  obtain ⟨u, y, hx, hy, hk, hk'⟩ := cmp_v (Or.inl h)
  obtain rfl : y = .int k := by simpa [Term.eval] using hy.symm
  obtain ⟨z, rfl⟩ := hk'
  have e := Cond.eq_ints hx hy
  rw [h] at e
  have : z = k := by simpa using e
  rw [← fld_at ev, hx, this]
theorem pn_1 : plainName "com/example/principal/principal/contactbook/select/SelectFunctionReadsContextPinLaw" = true := by first | (simp [plainName, overriddenIn]; done) | decide +kernel
theorem ef_rm1 (m : MethodId) (x0 : Int32) : entryFrame m #[(.int x0)] 1 = mkF m 0 #[.val (.int x0)] [] := by first | (simp [entryFrame, mkF, argsToLocals, Value.category]; done) | rfl
def Q_rm1 (Z : State) (p1 : Int32) (r : Int32 → Addr) (h0 : Heap) (n0 : Nat) (v : Option Value) (h : Heap) (L : List Loc) : Prop := v = some (.ref (r p1)) ∧ Fr n0 L ∧ h = h0
theorem d1_0 : decode method_3_code 0 = .ok (.iload_n 0, 1) := by decide +kernel
theorem d1_1 : decode method_3_code 1 = .ok (.ifCond .ne 7, 3) := by decide +kernel
theorem d1_4 : decode method_3_code 4 = .ok (.getstatic 20, 3) := by decide +kernel
theorem d1_7 : decode method_3_code 7 = .ok (.areturn, 1) := by decide +kernel
theorem d1_8 : decode method_3_code 8 = .ok (.iload_n 0, 1) := by decide +kernel
theorem d1_9 : decode method_3_code 9 = .ok (.iconst 1, 1) := by decide +kernel
theorem d1_10 : decode method_3_code 10 = .ok (.if_icmp .ne 7, 3) := by decide +kernel
theorem d1_13 : decode method_3_code 13 = .ok (.getstatic 24, 3) := by decide +kernel
theorem d1_16 : decode method_3_code 16 = .ok (.areturn, 1) := by decide +kernel
theorem d1_17 : decode method_3_code 17 = .ok (.iload_n 0, 1) := by decide +kernel
theorem d1_18 : decode method_3_code 18 = .ok (.iconst 2, 1) := by decide +kernel
theorem d1_19 : decode method_3_code 19 = .ok (.if_icmp .ne 7, 3) := by decide +kernel
theorem d1_22 : decode method_3_code 22 = .ok (.getstatic 27, 3) := by decide +kernel
theorem d1_25 : decode method_3_code 25 = .ok (.areturn, 1) := by decide +kernel
theorem d1_26 : decode method_3_code 26 = .ok (.iload_n 0, 1) := by decide +kernel
theorem d1_27 : decode method_3_code 27 = .ok (.iconst 3, 1) := by decide +kernel
theorem d1_28 : decode method_3_code 28 = .ok (.if_icmp .ne 7, 3) := by decide +kernel
theorem d1_31 : decode method_3_code 31 = .ok (.getstatic 30, 3) := by decide +kernel
theorem d1_34 : decode method_3_code 34 = .ok (.areturn, 1) := by decide +kernel
theorem d1_35 : decode method_3_code 35 = .ok (.iload_n 0, 1) := by decide +kernel
theorem d1_36 : decode method_3_code 36 = .ok (.iconst 4, 1) := by decide +kernel
theorem d1_37 : decode method_3_code 37 = .ok (.if_icmp .ne 7, 3) := by decide +kernel
theorem d1_40 : decode method_3_code 40 = .ok (.getstatic 33, 3) := by decide +kernel
theorem d1_43 : decode method_3_code 43 = .ok (.areturn, 1) := by decide +kernel
theorem d1_44 : decode method_3_code 44 = .ok (.iload_n 0, 1) := by decide +kernel
theorem d1_45 : decode method_3_code 45 = .ok (.iconst 5, 1) := by decide +kernel
theorem d1_46 : decode method_3_code 46 = .ok (.if_icmp .ne 7, 3) := by decide +kernel
theorem d1_49 : decode method_3_code 49 = .ok (.getstatic 36, 3) := by decide +kernel
theorem d1_52 : decode method_3_code 52 = .ok (.areturn, 1) := by decide +kernel
theorem d1_53 : decode method_3_code 53 = .ok (.iload_n 0, 1) := by decide +kernel
theorem d1_54 : decode method_3_code 54 = .ok (.bipush 6, 2) := by decide +kernel
theorem d1_56 : decode method_3_code 56 = .ok (.if_icmp .ne 7, 3) := by decide +kernel
theorem d1_59 : decode method_3_code 59 = .ok (.getstatic 39, 3) := by decide +kernel
theorem d1_62 : decode method_3_code 62 = .ok (.areturn, 1) := by decide +kernel
theorem d1_63 : decode method_3_code 63 = .ok (.iload_n 0, 1) := by decide +kernel
theorem d1_64 : decode method_3_code 64 = .ok (.bipush 7, 2) := by decide +kernel
theorem d1_66 : decode method_3_code 66 = .ok (.if_icmp .ne 7, 3) := by decide +kernel
theorem d1_69 : decode method_3_code 69 = .ok (.getstatic 42, 3) := by decide +kernel
theorem d1_72 : decode method_3_code 72 = .ok (.areturn, 1) := by decide +kernel
theorem d1_73 : decode method_3_code 73 = .ok (.iload_n 0, 1) := by decide +kernel
theorem d1_74 : decode method_3_code 74 = .ok (.bipush 8, 2) := by decide +kernel
theorem d1_76 : decode method_3_code 76 = .ok (.if_icmp .ne 7, 3) := by decide +kernel
theorem d1_79 : decode method_3_code 79 = .ok (.getstatic 45, 3) := by decide +kernel
theorem d1_82 : decode method_3_code 82 = .ok (.areturn, 1) := by decide +kernel
theorem d1_83 : decode method_3_code 83 = .ok (.iload_n 0, 1) := by decide +kernel
theorem d1_84 : decode method_3_code 84 = .ok (.bipush 9, 2) := by decide +kernel
theorem d1_86 : decode method_3_code 86 = .ok (.if_icmp .ne 7, 3) := by decide +kernel
theorem d1_89 : decode method_3_code 89 = .ok (.getstatic 48, 3) := by decide +kernel
theorem d1_92 : decode method_3_code 92 = .ok (.areturn, 1) := by decide +kernel
theorem d1_93 : decode method_3_code 93 = .ok (.iload_n 0, 1) := by decide +kernel
theorem d1_94 : decode method_3_code 94 = .ok (.bipush 10, 2) := by decide +kernel
theorem d1_96 : decode method_3_code 96 = .ok (.if_icmp .ne 7, 3) := by decide +kernel
theorem d1_99 : decode method_3_code 99 = .ok (.getstatic 51, 3) := by decide +kernel
theorem d1_102 : decode method_3_code 102 = .ok (.areturn, 1) := by decide +kernel
theorem d1_103 : decode method_3_code 103 = .ok (.iload_n 0, 1) := by decide +kernel
theorem d1_104 : decode method_3_code 104 = .ok (.bipush 11, 2) := by decide +kernel
theorem d1_106 : decode method_3_code 106 = .ok (.if_icmp .ne 7, 3) := by decide +kernel
theorem d1_109 : decode method_3_code 109 = .ok (.getstatic 54, 3) := by decide +kernel
theorem d1_112 : decode method_3_code 112 = .ok (.areturn, 1) := by decide +kernel
theorem d1_113 : decode method_3_code 113 = .ok (.iload_n 0, 1) := by decide +kernel
theorem d1_114 : decode method_3_code 114 = .ok (.bipush 12, 2) := by decide +kernel
theorem d1_116 : decode method_3_code 116 = .ok (.if_icmp .ne 7, 3) := by decide +kernel
theorem d1_119 : decode method_3_code 119 = .ok (.getstatic 57, 3) := by decide +kernel
theorem d1_122 : decode method_3_code 122 = .ok (.areturn, 1) := by decide +kernel
theorem d1_123 : decode method_3_code 123 = .ok (.iload_n 0, 1) := by decide +kernel
theorem d1_124 : decode method_3_code 124 = .ok (.bipush 13, 2) := by decide +kernel
theorem d1_126 : decode method_3_code 126 = .ok (.if_icmp .ne 7, 3) := by decide +kernel
theorem d1_129 : decode method_3_code 129 = .ok (.getstatic 60, 3) := by decide +kernel
theorem d1_132 : decode method_3_code 132 = .ok (.areturn, 1) := by decide +kernel
theorem d1_133 : decode method_3_code 133 = .ok (.iload_n 0, 1) := by decide +kernel
theorem d1_134 : decode method_3_code 134 = .ok (.bipush 14, 2) := by decide +kernel
theorem d1_136 : decode method_3_code 136 = .ok (.if_icmp .ne 7, 3) := by decide +kernel
theorem d1_139 : decode method_3_code 139 = .ok (.getstatic 63, 3) := by decide +kernel
theorem d1_142 : decode method_3_code 142 = .ok (.areturn, 1) := by decide +kernel
theorem d1_143 : decode method_3_code 143 = .ok (.iload_n 0, 1) := by decide +kernel
theorem d1_144 : decode method_3_code 144 = .ok (.bipush 15, 2) := by decide +kernel
theorem d1_146 : decode method_3_code 146 = .ok (.if_icmp .ne 7, 3) := by decide +kernel
theorem d1_149 : decode method_3_code 149 = .ok (.getstatic 66, 3) := by decide +kernel
theorem d1_152 : decode method_3_code 152 = .ok (.areturn, 1) := by decide +kernel
theorem d1_153 : decode method_3_code 153 = .ok (.iload_n 0, 1) := by decide +kernel
theorem d1_154 : decode method_3_code 154 = .ok (.bipush 16, 2) := by decide +kernel
theorem d1_156 : decode method_3_code 156 = .ok (.if_icmp .ne 7, 3) := by decide +kernel
theorem d1_159 : decode method_3_code 159 = .ok (.getstatic 69, 3) := by decide +kernel
theorem d1_162 : decode method_3_code 162 = .ok (.areturn, 1) := by decide +kernel
theorem d1_163 : decode method_3_code 163 = .ok (.getstatic 72, 3) := by decide +kernel
theorem d1_166 : decode method_3_code 166 = .ok (.areturn, 1) := by decide +kernel
set_option maxRecDepth 65536 in
set_option maxHeartbeats 40000000 in
theorem rm1 (l : Launch) (Z : State) (a0 : Array Value) (hw : ∀ d ∈ tables_1, d.before a0 Z = true) (ws : List Jvm.Cond) (p1 : Int32) (r : Int32 → Addr) (h0 : Heap) (n0 : Nat) (Z0 : n0 ≤ h0.size) (S_CONCAT : Sta Z h0 "com/example/principal/principal/contactbook/select/SelectFunction" "CONCAT" "Lcom/example/principal/principal/contactbook/select/SelectFunction;" (.ref (r (0 : Int32)))) (S_STARTS_WITH : Sta Z h0 "com/example/principal/principal/contactbook/select/SelectFunction" "STARTS_WITH" "Lcom/example/principal/principal/contactbook/select/SelectFunction;" (.ref (r (1 : Int32)))) (S_CONTAINS : Sta Z h0 "com/example/principal/principal/contactbook/select/SelectFunction" "CONTAINS" "Lcom/example/principal/principal/contactbook/select/SelectFunction;" (.ref (r (2 : Int32)))) (S_SUBSTRING_BEFORE : Sta Z h0 "com/example/principal/principal/contactbook/select/SelectFunction" "SUBSTRING_BEFORE" "Lcom/example/principal/principal/contactbook/select/SelectFunction;" (.ref (r (3 : Int32)))) (S_SUBSTRING_AFTER : Sta Z h0 "com/example/principal/principal/contactbook/select/SelectFunction" "SUBSTRING_AFTER" "Lcom/example/principal/principal/contactbook/select/SelectFunction;" (.ref (r (4 : Int32)))) (S_SUBSTRING : Sta Z h0 "com/example/principal/principal/contactbook/select/SelectFunction" "SUBSTRING" "Lcom/example/principal/principal/contactbook/select/SelectFunction;" (.ref (r (5 : Int32)))) (S_STRING_LENGTH : Sta Z h0 "com/example/principal/principal/contactbook/select/SelectFunction" "STRING_LENGTH" "Lcom/example/principal/principal/contactbook/select/SelectFunction;" (.ref (r (6 : Int32)))) (S_NORMALIZE_SPACE : Sta Z h0 "com/example/principal/principal/contactbook/select/SelectFunction" "NORMALIZE_SPACE" "Lcom/example/principal/principal/contactbook/select/SelectFunction;" (.ref (r (7 : Int32)))) (S_TRANSLATE : Sta Z h0 "com/example/principal/principal/contactbook/select/SelectFunction" "TRANSLATE" "Lcom/example/principal/principal/contactbook/select/SelectFunction;" (.ref (r (8 : Int32)))) (S_NOT : Sta Z h0 "com/example/principal/principal/contactbook/select/SelectFunction" "NOT" "Lcom/example/principal/principal/contactbook/select/SelectFunction;" (.ref (r (9 : Int32)))) (S_LANG : Sta Z h0 "com/example/principal/principal/contactbook/select/SelectFunction" "LANG" "Lcom/example/principal/principal/contactbook/select/SelectFunction;" (.ref (r (10 : Int32)))) (S_LE : Sta Z h0 "com/example/principal/principal/contactbook/select/SelectFunction" "LE" "Lcom/example/principal/principal/contactbook/select/SelectFunction;" (.ref (r (11 : Int32)))) (S_GE : Sta Z h0 "com/example/principal/principal/contactbook/select/SelectFunction" "GE" "Lcom/example/principal/principal/contactbook/select/SelectFunction;" (.ref (r (12 : Int32)))) (S_SOUNDSLIKE : Sta Z h0 "com/example/principal/principal/contactbook/select/SelectFunction" "SOUNDSLIKE" "Lcom/example/principal/principal/contactbook/select/SelectFunction;" (.ref (r (13 : Int32)))) (S_STRIPACCENTS : Sta Z h0 "com/example/principal/principal/contactbook/select/SelectFunction" "STRIPACCENTS" "Lcom/example/principal/principal/contactbook/select/SelectFunction;" (.ref (r (14 : Int32)))) (S_LOWERCASE : Sta Z h0 "com/example/principal/principal/contactbook/select/SelectFunction" "LOWERCASE" "Lcom/example/principal/principal/contactbook/select/SelectFunction;" (.ref (r (15 : Int32)))) (S_UPPERCASE : Sta Z h0 "com/example/principal/principal/contactbook/select/SelectFunction" "UPPERCASE" "Lcom/example/principal/principal/contactbook/select/SelectFunction;" (.ref (r (16 : Int32)))) (S_AVAIL : Sta Z h0 "com/example/principal/principal/contactbook/select/SelectFunction" "AVAIL" "Lcom/example/principal/principal/contactbook/select/SelectFunction;" (.ref (r (17 : Int32)))) (hk : own_rng p1) :
    MetFree l (⟨"com/example/principal/principal/contactbook/select/SelectFunctionReadsContextPinLaw", "pick", "(I)Lcom/example/principal/principal/contactbook/select/SelectFunction;"⟩ : MethodName) (head1 (Jvm.Cond.code (⟨"com/example/principal/principal/contactbook/select/SelectFunctionReadsContextPinLaw", "pick", "(I)Lcom/example/principal/principal/contactbook/select/SelectFunction;"⟩ : MethodName) method_3_code 1 (some (.object "com/example/principal/principal/contactbook/select/SelectFunction")) :: ws) ({ frames := 0, cells := 0, slots := 0, locals := 0 } : Room)) (fun a U => a = #[(.int p1)] ∧ Z.Warmed39 U.vm ∧ U.heap = h0) (fun _ _ _ _ _ => True) (fun _ U o U' => ∃ v L, o = .returned v ∧ Q_rm1 Z p1 r h0 n0 v U'.heap L ∧ FrameEnd U o U' L ({ frames := 0, cells := 0, slots := 0, locals := 0 } : Room).cells ({ frames := 0, cells := 0, slots := 0, locals := 0 } : Room).slots) := by
  refine MetFree.of_bodySF (plainFor_of_name pn_1) hisR ?_
  intro p e s m args below meth c s₁ Bd hml0 hP hK
  obtain ⟨rfl, hZ, hh⟩ := hP
  have hx := Bd.exec
  have hby := Bd.bytes
  have hml : c.maxLocals = 1 := hml0
  have hown : s.vm.findClass "com/example/principal/principal/contactbook/select/SelectFunctionReadsContextPinLaw" = some m.cls := findClass_of_methodNamed Bd.named
  have hnm := (name_of_methodNamed Bd.named Bd.method).1
  have X0 : Stand p l e ({ frames := 0, cells := 0, slots := 0, locals := 0 } : Room) s m #[(.int p1)] below meth c s₁ [] 0 0 := Stand.of_body Bd
  have e0 : s₁.heap = h0 := by rw [← hh, Bd.state]; rfl
  have N0 := Fr.nil n0
  have pre0 : ∀ t, Steps p.tables e below (s₁.setTop (mkF m 0 #[.val (.int p1)] [])) t → Steps p.tables e below (s₁.setTop (entryFrame m #[(.int p1)] 1)) t := fun t kt => castTop (ef_rm1 m p1) kt
  have pre_1 : ∀ t, Steps p.tables e below (s₁.setTop (mkF m 1 #[.val (.int p1)] [(.int p1)])) t → Steps p.tables e below (s₁.setTop (entryFrame m #[(.int p1)] 1)) t := by
    intro t kt
    refine pre0 _ ?_
    show Steps p.tables e below (s₁.setTop (mkF m 0 #[.val (.int p1)] [])) _
    refine XS.iloadN X0.here hx rfl (hb hby d1_0) rfl ?_
    exact kt
  by_cases hc1 : p1 = (0 : Int32)
  · obtain ⟨T2, X2, e2, st2⟩ := getS2 X0 hx hZ hown (host := "") (Or.inl (hw _ (List.mem_of_getElem? (i := 5) rfl))) Via.refl e0 S_CONCAT (g := (mkF m 4 #[.val (.int p1)] [])) rfl (hb hby d1_4)
    obtain ⟨fs, hr, hrun, hended, hW, hsame⟩ := X2.leave (v := some (.ref (r (0 : Int32)))) (fun h => by rw [Bd.returns] at h; cases h) (hlocks := Bd.notSynchronized)
    refine ⟨_, _, pre_1 _ ?_, hrun, hended, _, _, rfl, ?_, ⟨_, rfl⟩, hW, hsame.mono (by decide) (by decide)⟩
    · show Steps p.tables e below (s₁.setTop (mkF m 1 #[.val (.int p1)] [(.int p1)])) _
      refine XS.ifNo X0.here hx rfl (hb hby d1_1) rfl ((if0 _ _).trans (teq hc1).2) ?_
      show Steps p.tables e below (s₁.setTop (mkF m 4 #[.val (.int p1)] [])) _
      refine st2 _ ?_
      show Steps p.tables e below (T2.setTop (mkF m 7 #[.val (.int p1)] [(.ref (r (0 : Int32)))])) _
      exact X2.areturnOut hx rfl Bd.returns rfl (hb hby d1_7) hr
    · show Q_rm1 Z p1 r h0 n0 _ T2.heap _
      rw [e2]
      exact ⟨by rw [hc1], N0, rfl⟩
  · have pre_3 : ∀ t, Steps p.tables e below (s₁.setTop (mkF m 10 #[.val (.int p1)] [(.int (1 : Int32)), (.int p1)])) t → Steps p.tables e below (s₁.setTop (entryFrame m #[(.int p1)] 1)) t := by
      intro t kt
      refine pre_1 _ ?_
      show Steps p.tables e below (s₁.setTop (mkF m 1 #[.val (.int p1)] [(.int p1)])) _
      refine XS.ifYes X0.here hx rfl (pc0 := 1) (pc' := 8) rfl (hb hby d1_1) rfl ((if0 _ _).trans (feq hc1).2) (by decide) (by decide) ?_
      show Steps p.tables e below (s₁.setTop (mkF m 8 #[.val (.int p1)] [])) _
      refine XS.iloadN X0.here hx rfl (hb hby d1_8) rfl ?_
      show Steps p.tables e below (s₁.setTop (mkF m 9 #[.val (.int p1)] [(.int p1)])) _
      refine XS.iconst X0.here hx rfl (hb hby d1_9) ?_
      exact kt
    by_cases hc10 : p1 = (1 : Int32)
    · obtain ⟨T4, X4, e4, st4⟩ := getS2 X0 hx hZ hown (host := "") (Or.inl (hw _ (List.mem_of_getElem? (i := 15) rfl))) Via.refl e0 S_STARTS_WITH (g := (mkF m 13 #[.val (.int p1)] [])) rfl (hb hby d1_13)
      obtain ⟨fs, hr, hrun, hended, hW, hsame⟩ := X4.leave (v := some (.ref (r (1 : Int32)))) (fun h => by rw [Bd.returns] at h; cases h) (hlocks := Bd.notSynchronized)
      refine ⟨_, _, pre_3 _ ?_, hrun, hended, _, _, rfl, ?_, ⟨_, rfl⟩, hW, hsame.mono (by decide) (by decide)⟩
      · show Steps p.tables e below (s₁.setTop (mkF m 10 #[.val (.int p1)] [(.int (1 : Int32)), (.int p1)])) _
        refine XS.icmpNo X0.here hx rfl (hb hby d1_10) rfl (teq hc10).2 ?_
        show Steps p.tables e below (s₁.setTop (mkF m 13 #[.val (.int p1)] [])) _
        refine st4 _ ?_
        show Steps p.tables e below (T4.setTop (mkF m 16 #[.val (.int p1)] [(.ref (r (1 : Int32)))])) _
        exact X4.areturnOut hx rfl Bd.returns rfl (hb hby d1_16) hr
      · show Q_rm1 Z p1 r h0 n0 _ T4.heap _
        rw [e4]
        exact ⟨by rw [hc10], N0, rfl⟩
    · have pre_5 : ∀ t, Steps p.tables e below (s₁.setTop (mkF m 19 #[.val (.int p1)] [(.int (2 : Int32)), (.int p1)])) t → Steps p.tables e below (s₁.setTop (entryFrame m #[(.int p1)] 1)) t := by
        intro t kt
        refine pre_3 _ ?_
        show Steps p.tables e below (s₁.setTop (mkF m 10 #[.val (.int p1)] [(.int (1 : Int32)), (.int p1)])) _
        refine XS.icmpYes X0.here hx rfl (pc0 := 10) (pc' := 17) rfl (hb hby d1_10) rfl (feq hc10).2 (by decide) (by decide) ?_
        show Steps p.tables e below (s₁.setTop (mkF m 17 #[.val (.int p1)] [])) _
        refine XS.iloadN X0.here hx rfl (hb hby d1_17) rfl ?_
        show Steps p.tables e below (s₁.setTop (mkF m 18 #[.val (.int p1)] [(.int p1)])) _
        refine XS.iconst X0.here hx rfl (hb hby d1_18) ?_
        exact kt
      by_cases hc19 : p1 = (2 : Int32)
      · obtain ⟨T6, X6, e6, st6⟩ := getS2 X0 hx hZ hown (host := "") (Or.inl (hw _ (List.mem_of_getElem? (i := 21) rfl))) Via.refl e0 S_CONTAINS (g := (mkF m 22 #[.val (.int p1)] [])) rfl (hb hby d1_22)
        obtain ⟨fs, hr, hrun, hended, hW, hsame⟩ := X6.leave (v := some (.ref (r (2 : Int32)))) (fun h => by rw [Bd.returns] at h; cases h) (hlocks := Bd.notSynchronized)
        refine ⟨_, _, pre_5 _ ?_, hrun, hended, _, _, rfl, ?_, ⟨_, rfl⟩, hW, hsame.mono (by decide) (by decide)⟩
        · show Steps p.tables e below (s₁.setTop (mkF m 19 #[.val (.int p1)] [(.int (2 : Int32)), (.int p1)])) _
          refine XS.icmpNo X0.here hx rfl (hb hby d1_19) rfl (teq hc19).2 ?_
          show Steps p.tables e below (s₁.setTop (mkF m 22 #[.val (.int p1)] [])) _
          refine st6 _ ?_
          show Steps p.tables e below (T6.setTop (mkF m 25 #[.val (.int p1)] [(.ref (r (2 : Int32)))])) _
          exact X6.areturnOut hx rfl Bd.returns rfl (hb hby d1_25) hr
        · show Q_rm1 Z p1 r h0 n0 _ T6.heap _
          rw [e6]
          exact ⟨by rw [hc19], N0, rfl⟩
      · have pre_7 : ∀ t, Steps p.tables e below (s₁.setTop (mkF m 28 #[.val (.int p1)] [(.int (3 : Int32)), (.int p1)])) t → Steps p.tables e below (s₁.setTop (entryFrame m #[(.int p1)] 1)) t := by
          intro t kt
          refine pre_5 _ ?_
          show Steps p.tables e below (s₁.setTop (mkF m 19 #[.val (.int p1)] [(.int (2 : Int32)), (.int p1)])) _
          refine XS.icmpYes X0.here hx rfl (pc0 := 19) (pc' := 26) rfl (hb hby d1_19) rfl (feq hc19).2 (by decide) (by decide) ?_
          show Steps p.tables e below (s₁.setTop (mkF m 26 #[.val (.int p1)] [])) _
          refine XS.iloadN X0.here hx rfl (hb hby d1_26) rfl ?_
          show Steps p.tables e below (s₁.setTop (mkF m 27 #[.val (.int p1)] [(.int p1)])) _
          refine XS.iconst X0.here hx rfl (hb hby d1_27) ?_
          exact kt
        by_cases hc28 : p1 = (3 : Int32)
        · obtain ⟨T8, X8, e8, st8⟩ := getS2 X0 hx hZ hown (host := "") (Or.inl (hw _ (List.mem_of_getElem? (i := 29) rfl))) Via.refl e0 S_SUBSTRING_BEFORE (g := (mkF m 31 #[.val (.int p1)] [])) rfl (hb hby d1_31)
          obtain ⟨fs, hr, hrun, hended, hW, hsame⟩ := X8.leave (v := some (.ref (r (3 : Int32)))) (fun h => by rw [Bd.returns] at h; cases h) (hlocks := Bd.notSynchronized)
          refine ⟨_, _, pre_7 _ ?_, hrun, hended, _, _, rfl, ?_, ⟨_, rfl⟩, hW, hsame.mono (by decide) (by decide)⟩
          · show Steps p.tables e below (s₁.setTop (mkF m 28 #[.val (.int p1)] [(.int (3 : Int32)), (.int p1)])) _
            refine XS.icmpNo X0.here hx rfl (hb hby d1_28) rfl (teq hc28).2 ?_
            show Steps p.tables e below (s₁.setTop (mkF m 31 #[.val (.int p1)] [])) _
            refine st8 _ ?_
            show Steps p.tables e below (T8.setTop (mkF m 34 #[.val (.int p1)] [(.ref (r (3 : Int32)))])) _
            exact X8.areturnOut hx rfl Bd.returns rfl (hb hby d1_34) hr
          · show Q_rm1 Z p1 r h0 n0 _ T8.heap _
            rw [e8]
            exact ⟨by rw [hc28], N0, rfl⟩
        · have pre_9 : ∀ t, Steps p.tables e below (s₁.setTop (mkF m 37 #[.val (.int p1)] [(.int (4 : Int32)), (.int p1)])) t → Steps p.tables e below (s₁.setTop (entryFrame m #[(.int p1)] 1)) t := by
            intro t kt
            refine pre_7 _ ?_
            show Steps p.tables e below (s₁.setTop (mkF m 28 #[.val (.int p1)] [(.int (3 : Int32)), (.int p1)])) _
            refine XS.icmpYes X0.here hx rfl (pc0 := 28) (pc' := 35) rfl (hb hby d1_28) rfl (feq hc28).2 (by decide) (by decide) ?_
            show Steps p.tables e below (s₁.setTop (mkF m 35 #[.val (.int p1)] [])) _
            refine XS.iloadN X0.here hx rfl (hb hby d1_35) rfl ?_
            show Steps p.tables e below (s₁.setTop (mkF m 36 #[.val (.int p1)] [(.int p1)])) _
            refine XS.iconst X0.here hx rfl (hb hby d1_36) ?_
            exact kt
          by_cases hc37 : p1 = (4 : Int32)
          · obtain ⟨T10, X10, e10, st10⟩ := getS2 X0 hx hZ hown (host := "") (Or.inl (hw _ (List.mem_of_getElem? (i := 48) rfl))) Via.refl e0 S_SUBSTRING_AFTER (g := (mkF m 40 #[.val (.int p1)] [])) rfl (hb hby d1_40)
            obtain ⟨fs, hr, hrun, hended, hW, hsame⟩ := X10.leave (v := some (.ref (r (4 : Int32)))) (fun h => by rw [Bd.returns] at h; cases h) (hlocks := Bd.notSynchronized)
            refine ⟨_, _, pre_9 _ ?_, hrun, hended, _, _, rfl, ?_, ⟨_, rfl⟩, hW, hsame.mono (by decide) (by decide)⟩
            · show Steps p.tables e below (s₁.setTop (mkF m 37 #[.val (.int p1)] [(.int (4 : Int32)), (.int p1)])) _
              refine XS.icmpNo X0.here hx rfl (hb hby d1_37) rfl (teq hc37).2 ?_
              show Steps p.tables e below (s₁.setTop (mkF m 40 #[.val (.int p1)] [])) _
              refine st10 _ ?_
              show Steps p.tables e below (T10.setTop (mkF m 43 #[.val (.int p1)] [(.ref (r (4 : Int32)))])) _
              exact X10.areturnOut hx rfl Bd.returns rfl (hb hby d1_43) hr
            · show Q_rm1 Z p1 r h0 n0 _ T10.heap _
              rw [e10]
              exact ⟨by rw [hc37], N0, rfl⟩
          · have pre_11 : ∀ t, Steps p.tables e below (s₁.setTop (mkF m 46 #[.val (.int p1)] [(.int (5 : Int32)), (.int p1)])) t → Steps p.tables e below (s₁.setTop (entryFrame m #[(.int p1)] 1)) t := by
              intro t kt
              refine pre_9 _ ?_
              show Steps p.tables e below (s₁.setTop (mkF m 37 #[.val (.int p1)] [(.int (4 : Int32)), (.int p1)])) _
              refine XS.icmpYes X0.here hx rfl (pc0 := 37) (pc' := 44) rfl (hb hby d1_37) rfl (feq hc37).2 (by decide) (by decide) ?_
              show Steps p.tables e below (s₁.setTop (mkF m 44 #[.val (.int p1)] [])) _
              refine XS.iloadN X0.here hx rfl (hb hby d1_44) rfl ?_
              show Steps p.tables e below (s₁.setTop (mkF m 45 #[.val (.int p1)] [(.int p1)])) _
              refine XS.iconst X0.here hx rfl (hb hby d1_45) ?_
              exact kt
            by_cases hc46 : p1 = (5 : Int32)
            · obtain ⟨T12, X12, e12, st12⟩ := getS2 X0 hx hZ hown (host := "") (Or.inl (hw _ (List.mem_of_getElem? (i := 44) rfl))) Via.refl e0 S_SUBSTRING (g := (mkF m 49 #[.val (.int p1)] [])) rfl (hb hby d1_49)
              obtain ⟨fs, hr, hrun, hended, hW, hsame⟩ := X12.leave (v := some (.ref (r (5 : Int32)))) (fun h => by rw [Bd.returns] at h; cases h) (hlocks := Bd.notSynchronized)
              refine ⟨_, _, pre_11 _ ?_, hrun, hended, _, _, rfl, ?_, ⟨_, rfl⟩, hW, hsame.mono (by decide) (by decide)⟩
              · show Steps p.tables e below (s₁.setTop (mkF m 46 #[.val (.int p1)] [(.int (5 : Int32)), (.int p1)])) _
                refine XS.icmpNo X0.here hx rfl (hb hby d1_46) rfl (teq hc46).2 ?_
                show Steps p.tables e below (s₁.setTop (mkF m 49 #[.val (.int p1)] [])) _
                refine st12 _ ?_
                show Steps p.tables e below (T12.setTop (mkF m 52 #[.val (.int p1)] [(.ref (r (5 : Int32)))])) _
                exact X12.areturnOut hx rfl Bd.returns rfl (hb hby d1_52) hr
              · show Q_rm1 Z p1 r h0 n0 _ T12.heap _
                rw [e12]
                exact ⟨by rw [hc46], N0, rfl⟩
            · have pre_13 : ∀ t, Steps p.tables e below (s₁.setTop (mkF m 56 #[.val (.int p1)] [(.int (6 : Int32)), (.int p1)])) t → Steps p.tables e below (s₁.setTop (entryFrame m #[(.int p1)] 1)) t := by
                intro t kt
                refine pre_11 _ ?_
                show Steps p.tables e below (s₁.setTop (mkF m 46 #[.val (.int p1)] [(.int (5 : Int32)), (.int p1)])) _
                refine XS.icmpYes X0.here hx rfl (pc0 := 46) (pc' := 53) rfl (hb hby d1_46) rfl (feq hc46).2 (by decide) (by decide) ?_
                show Steps p.tables e below (s₁.setTop (mkF m 53 #[.val (.int p1)] [])) _
                refine XS.iloadN X0.here hx rfl (hb hby d1_53) rfl ?_
                show Steps p.tables e below (s₁.setTop (mkF m 54 #[.val (.int p1)] [(.int p1)])) _
                refine XS.bipush X0.here hx rfl (hb hby d1_54) ?_
                exact kt
              by_cases hc56 : p1 = (6 : Int32)
              · obtain ⟨T14, X14, e14, st14⟩ := getS2 X0 hx hZ hown (host := "") (Or.inl (hw _ (List.mem_of_getElem? (i := 27) rfl))) Via.refl e0 S_STRING_LENGTH (g := (mkF m 59 #[.val (.int p1)] [])) rfl (hb hby d1_59)
                obtain ⟨fs, hr, hrun, hended, hW, hsame⟩ := X14.leave (v := some (.ref (r (6 : Int32)))) (fun h => by rw [Bd.returns] at h; cases h) (hlocks := Bd.notSynchronized)
                refine ⟨_, _, pre_13 _ ?_, hrun, hended, _, _, rfl, ?_, ⟨_, rfl⟩, hW, hsame.mono (by decide) (by decide)⟩
                · show Steps p.tables e below (s₁.setTop (mkF m 56 #[.val (.int p1)] [(.int (6 : Int32)), (.int p1)])) _
                  refine XS.icmpNo X0.here hx rfl (hb hby d1_56) rfl (teq hc56).2 ?_
                  show Steps p.tables e below (s₁.setTop (mkF m 59 #[.val (.int p1)] [])) _
                  refine st14 _ ?_
                  show Steps p.tables e below (T14.setTop (mkF m 62 #[.val (.int p1)] [(.ref (r (6 : Int32)))])) _
                  exact X14.areturnOut hx rfl Bd.returns rfl (hb hby d1_62) hr
                · show Q_rm1 Z p1 r h0 n0 _ T14.heap _
                  rw [e14]
                  exact ⟨by rw [hc56], N0, rfl⟩
              · have pre_15 : ∀ t, Steps p.tables e below (s₁.setTop (mkF m 66 #[.val (.int p1)] [(.int (7 : Int32)), (.int p1)])) t → Steps p.tables e below (s₁.setTop (entryFrame m #[(.int p1)] 1)) t := by
                  intro t kt
                  refine pre_13 _ ?_
                  show Steps p.tables e below (s₁.setTop (mkF m 56 #[.val (.int p1)] [(.int (6 : Int32)), (.int p1)])) _
                  refine XS.icmpYes X0.here hx rfl (pc0 := 56) (pc' := 63) rfl (hb hby d1_56) rfl (feq hc56).2 (by decide) (by decide) ?_
                  show Steps p.tables e below (s₁.setTop (mkF m 63 #[.val (.int p1)] [])) _
                  refine XS.iloadN X0.here hx rfl (hb hby d1_63) rfl ?_
                  show Steps p.tables e below (s₁.setTop (mkF m 64 #[.val (.int p1)] [(.int p1)])) _
                  refine XS.bipush X0.here hx rfl (hb hby d1_64) ?_
                  exact kt
                by_cases hc66 : p1 = (7 : Int32)
                · obtain ⟨T16, X16, e16, st16⟩ := getS2 X0 hx hZ hown (host := "") (Or.inl (hw _ (List.mem_of_getElem? (i := 28) rfl))) Via.refl e0 S_NORMALIZE_SPACE (g := (mkF m 69 #[.val (.int p1)] [])) rfl (hb hby d1_69)
                  obtain ⟨fs, hr, hrun, hended, hW, hsame⟩ := X16.leave (v := some (.ref (r (7 : Int32)))) (fun h => by rw [Bd.returns] at h; cases h) (hlocks := Bd.notSynchronized)
                  refine ⟨_, _, pre_15 _ ?_, hrun, hended, _, _, rfl, ?_, ⟨_, rfl⟩, hW, hsame.mono (by decide) (by decide)⟩
                  · show Steps p.tables e below (s₁.setTop (mkF m 66 #[.val (.int p1)] [(.int (7 : Int32)), (.int p1)])) _
                    refine XS.icmpNo X0.here hx rfl (hb hby d1_66) rfl (teq hc66).2 ?_
                    show Steps p.tables e below (s₁.setTop (mkF m 69 #[.val (.int p1)] [])) _
                    refine st16 _ ?_
                    show Steps p.tables e below (T16.setTop (mkF m 72 #[.val (.int p1)] [(.ref (r (7 : Int32)))])) _
                    exact X16.areturnOut hx rfl Bd.returns rfl (hb hby d1_72) hr
                  · show Q_rm1 Z p1 r h0 n0 _ T16.heap _
                    rw [e16]
                    exact ⟨by rw [hc66], N0, rfl⟩
                · have pre_17 : ∀ t, Steps p.tables e below (s₁.setTop (mkF m 76 #[.val (.int p1)] [(.int (8 : Int32)), (.int p1)])) t → Steps p.tables e below (s₁.setTop (entryFrame m #[(.int p1)] 1)) t := by
                    intro t kt
                    refine pre_15 _ ?_
                    show Steps p.tables e below (s₁.setTop (mkF m 66 #[.val (.int p1)] [(.int (7 : Int32)), (.int p1)])) _
                    refine XS.icmpYes X0.here hx rfl (pc0 := 66) (pc' := 73) rfl (hb hby d1_66) rfl (feq hc66).2 (by decide) (by decide) ?_
                    show Steps p.tables e below (s₁.setTop (mkF m 73 #[.val (.int p1)] [])) _
                    refine XS.iloadN X0.here hx rfl (hb hby d1_73) rfl ?_
                    show Steps p.tables e below (s₁.setTop (mkF m 74 #[.val (.int p1)] [(.int p1)])) _
                    refine XS.bipush X0.here hx rfl (hb hby d1_74) ?_
                    exact kt
                  by_cases hc76 : p1 = (8 : Int32)
                  · obtain ⟨T18, X18, e18, st18⟩ := getS2 X0 hx hZ hown (host := "") (Or.inl (hw _ (List.mem_of_getElem? (i := 25) rfl))) Via.refl e0 S_TRANSLATE (g := (mkF m 79 #[.val (.int p1)] [])) rfl (hb hby d1_79)
                    obtain ⟨fs, hr, hrun, hended, hW, hsame⟩ := X18.leave (v := some (.ref (r (8 : Int32)))) (fun h => by rw [Bd.returns] at h; cases h) (hlocks := Bd.notSynchronized)
                    refine ⟨_, _, pre_17 _ ?_, hrun, hended, _, _, rfl, ?_, ⟨_, rfl⟩, hW, hsame.mono (by decide) (by decide)⟩
                    · show Steps p.tables e below (s₁.setTop (mkF m 76 #[.val (.int p1)] [(.int (8 : Int32)), (.int p1)])) _
                      refine XS.icmpNo X0.here hx rfl (hb hby d1_76) rfl (teq hc76).2 ?_
                      show Steps p.tables e below (s₁.setTop (mkF m 79 #[.val (.int p1)] [])) _
                      refine st18 _ ?_
                      show Steps p.tables e below (T18.setTop (mkF m 82 #[.val (.int p1)] [(.ref (r (8 : Int32)))])) _
                      exact X18.areturnOut hx rfl Bd.returns rfl (hb hby d1_82) hr
                    · show Q_rm1 Z p1 r h0 n0 _ T18.heap _
                      rw [e18]
                      exact ⟨by rw [hc76], N0, rfl⟩
                  · have pre_19 : ∀ t, Steps p.tables e below (s₁.setTop (mkF m 86 #[.val (.int p1)] [(.int (9 : Int32)), (.int p1)])) t → Steps p.tables e below (s₁.setTop (entryFrame m #[(.int p1)] 1)) t := by
                      intro t kt
                      refine pre_17 _ ?_
                      show Steps p.tables e below (s₁.setTop (mkF m 76 #[.val (.int p1)] [(.int (8 : Int32)), (.int p1)])) _
                      refine XS.icmpYes X0.here hx rfl (pc0 := 76) (pc' := 83) rfl (hb hby d1_76) rfl (feq hc76).2 (by decide) (by decide) ?_
                      show Steps p.tables e below (s₁.setTop (mkF m 83 #[.val (.int p1)] [])) _
                      refine XS.iloadN X0.here hx rfl (hb hby d1_83) rfl ?_
                      show Steps p.tables e below (s₁.setTop (mkF m 84 #[.val (.int p1)] [(.int p1)])) _
                      refine XS.bipush X0.here hx rfl (hb hby d1_84) ?_
                      exact kt
                    by_cases hc86 : p1 = (9 : Int32)
                    · obtain ⟨T20, X20, e20, st20⟩ := getS2 X0 hx hZ hown (host := "") (Or.inl (hw _ (List.mem_of_getElem? (i := 40) rfl))) Via.refl e0 S_NOT (g := (mkF m 89 #[.val (.int p1)] [])) rfl (hb hby d1_89)
                      obtain ⟨fs, hr, hrun, hended, hW, hsame⟩ := X20.leave (v := some (.ref (r (9 : Int32)))) (fun h => by rw [Bd.returns] at h; cases h) (hlocks := Bd.notSynchronized)
                      refine ⟨_, _, pre_19 _ ?_, hrun, hended, _, _, rfl, ?_, ⟨_, rfl⟩, hW, hsame.mono (by decide) (by decide)⟩
                      · show Steps p.tables e below (s₁.setTop (mkF m 86 #[.val (.int p1)] [(.int (9 : Int32)), (.int p1)])) _
                        refine XS.icmpNo X0.here hx rfl (hb hby d1_86) rfl (teq hc86).2 ?_
                        show Steps p.tables e below (s₁.setTop (mkF m 89 #[.val (.int p1)] [])) _
                        refine st20 _ ?_
                        show Steps p.tables e below (T20.setTop (mkF m 92 #[.val (.int p1)] [(.ref (r (9 : Int32)))])) _
                        exact X20.areturnOut hx rfl Bd.returns rfl (hb hby d1_92) hr
                      · show Q_rm1 Z p1 r h0 n0 _ T20.heap _
                        rw [e20]
                        exact ⟨by rw [hc86], N0, rfl⟩
                    · have pre_21 : ∀ t, Steps p.tables e below (s₁.setTop (mkF m 96 #[.val (.int p1)] [(.int (10 : Int32)), (.int p1)])) t → Steps p.tables e below (s₁.setTop (entryFrame m #[(.int p1)] 1)) t := by
                        intro t kt
                        refine pre_19 _ ?_
                        show Steps p.tables e below (s₁.setTop (mkF m 86 #[.val (.int p1)] [(.int (9 : Int32)), (.int p1)])) _
                        refine XS.icmpYes X0.here hx rfl (pc0 := 86) (pc' := 93) rfl (hb hby d1_86) rfl (feq hc86).2 (by decide) (by decide) ?_
                        show Steps p.tables e below (s₁.setTop (mkF m 93 #[.val (.int p1)] [])) _
                        refine XS.iloadN X0.here hx rfl (hb hby d1_93) rfl ?_
                        show Steps p.tables e below (s₁.setTop (mkF m 94 #[.val (.int p1)] [(.int p1)])) _
                        refine XS.bipush X0.here hx rfl (hb hby d1_94) ?_
                        exact kt
                      by_cases hc96 : p1 = (10 : Int32)
                      · obtain ⟨T22, X22, e22, st22⟩ := getS2 X0 hx hZ hown (host := "") (Or.inl (hw _ (List.mem_of_getElem? (i := 31) rfl))) Via.refl e0 S_LANG (g := (mkF m 99 #[.val (.int p1)] [])) rfl (hb hby d1_99)
                        obtain ⟨fs, hr, hrun, hended, hW, hsame⟩ := X22.leave (v := some (.ref (r (10 : Int32)))) (fun h => by rw [Bd.returns] at h; cases h) (hlocks := Bd.notSynchronized)
                        refine ⟨_, _, pre_21 _ ?_, hrun, hended, _, _, rfl, ?_, ⟨_, rfl⟩, hW, hsame.mono (by decide) (by decide)⟩
                        · show Steps p.tables e below (s₁.setTop (mkF m 96 #[.val (.int p1)] [(.int (10 : Int32)), (.int p1)])) _
                          refine XS.icmpNo X0.here hx rfl (hb hby d1_96) rfl (teq hc96).2 ?_
                          show Steps p.tables e below (s₁.setTop (mkF m 99 #[.val (.int p1)] [])) _
                          refine st22 _ ?_
                          show Steps p.tables e below (T22.setTop (mkF m 102 #[.val (.int p1)] [(.ref (r (10 : Int32)))])) _
                          exact X22.areturnOut hx rfl Bd.returns rfl (hb hby d1_102) hr
                        · show Q_rm1 Z p1 r h0 n0 _ T22.heap _
                          rw [e22]
                          exact ⟨by rw [hc96], N0, rfl⟩
                      · have pre_23 : ∀ t, Steps p.tables e below (s₁.setTop (mkF m 106 #[.val (.int p1)] [(.int (11 : Int32)), (.int p1)])) t → Steps p.tables e below (s₁.setTop (entryFrame m #[(.int p1)] 1)) t := by
                          intro t kt
                          refine pre_21 _ ?_
                          show Steps p.tables e below (s₁.setTop (mkF m 96 #[.val (.int p1)] [(.int (10 : Int32)), (.int p1)])) _
                          refine XS.icmpYes X0.here hx rfl (pc0 := 96) (pc' := 103) rfl (hb hby d1_96) rfl (feq hc96).2 (by decide) (by decide) ?_
                          show Steps p.tables e below (s₁.setTop (mkF m 103 #[.val (.int p1)] [])) _
                          refine XS.iloadN X0.here hx rfl (hb hby d1_103) rfl ?_
                          show Steps p.tables e below (s₁.setTop (mkF m 104 #[.val (.int p1)] [(.int p1)])) _
                          refine XS.bipush X0.here hx rfl (hb hby d1_104) ?_
                          exact kt
                        by_cases hc106 : p1 = (11 : Int32)
                        · obtain ⟨T24, X24, e24, st24⟩ := getS2 X0 hx hZ hown (host := "") (Or.inl (hw _ (List.mem_of_getElem? (i := 36) rfl))) Via.refl e0 S_LE (g := (mkF m 109 #[.val (.int p1)] [])) rfl (hb hby d1_109)
                          obtain ⟨fs, hr, hrun, hended, hW, hsame⟩ := X24.leave (v := some (.ref (r (11 : Int32)))) (fun h => by rw [Bd.returns] at h; cases h) (hlocks := Bd.notSynchronized)
                          refine ⟨_, _, pre_23 _ ?_, hrun, hended, _, _, rfl, ?_, ⟨_, rfl⟩, hW, hsame.mono (by decide) (by decide)⟩
                          · show Steps p.tables e below (s₁.setTop (mkF m 106 #[.val (.int p1)] [(.int (11 : Int32)), (.int p1)])) _
                            refine XS.icmpNo X0.here hx rfl (hb hby d1_106) rfl (teq hc106).2 ?_
                            show Steps p.tables e below (s₁.setTop (mkF m 109 #[.val (.int p1)] [])) _
                            refine st24 _ ?_
                            show Steps p.tables e below (T24.setTop (mkF m 112 #[.val (.int p1)] [(.ref (r (11 : Int32)))])) _
                            exact X24.areturnOut hx rfl Bd.returns rfl (hb hby d1_112) hr
                          · show Q_rm1 Z p1 r h0 n0 _ T24.heap _
                            rw [e24]
                            exact ⟨by rw [hc106], N0, rfl⟩
                        · have pre_25 : ∀ t, Steps p.tables e below (s₁.setTop (mkF m 116 #[.val (.int p1)] [(.int (12 : Int32)), (.int p1)])) t → Steps p.tables e below (s₁.setTop (entryFrame m #[(.int p1)] 1)) t := by
                            intro t kt
                            refine pre_23 _ ?_
                            show Steps p.tables e below (s₁.setTop (mkF m 106 #[.val (.int p1)] [(.int (11 : Int32)), (.int p1)])) _
                            refine XS.icmpYes X0.here hx rfl (pc0 := 106) (pc' := 113) rfl (hb hby d1_106) rfl (feq hc106).2 (by decide) (by decide) ?_
                            show Steps p.tables e below (s₁.setTop (mkF m 113 #[.val (.int p1)] [])) _
                            refine XS.iloadN X0.here hx rfl (hb hby d1_113) rfl ?_
                            show Steps p.tables e below (s₁.setTop (mkF m 114 #[.val (.int p1)] [(.int p1)])) _
                            refine XS.bipush X0.here hx rfl (hb hby d1_114) ?_
                            exact kt
                          by_cases hc116 : p1 = (12 : Int32)
                          · obtain ⟨T26, X26, e26, st26⟩ := getS2 X0 hx hZ hown (host := "") (Or.inl (hw _ (List.mem_of_getElem? (i := 34) rfl))) Via.refl e0 S_GE (g := (mkF m 119 #[.val (.int p1)] [])) rfl (hb hby d1_119)
                            obtain ⟨fs, hr, hrun, hended, hW, hsame⟩ := X26.leave (v := some (.ref (r (12 : Int32)))) (fun h => by rw [Bd.returns] at h; cases h) (hlocks := Bd.notSynchronized)
                            refine ⟨_, _, pre_25 _ ?_, hrun, hended, _, _, rfl, ?_, ⟨_, rfl⟩, hW, hsame.mono (by decide) (by decide)⟩
                            · show Steps p.tables e below (s₁.setTop (mkF m 116 #[.val (.int p1)] [(.int (12 : Int32)), (.int p1)])) _
                              refine XS.icmpNo X0.here hx rfl (hb hby d1_116) rfl (teq hc116).2 ?_
                              show Steps p.tables e below (s₁.setTop (mkF m 119 #[.val (.int p1)] [])) _
                              refine st26 _ ?_
                              show Steps p.tables e below (T26.setTop (mkF m 122 #[.val (.int p1)] [(.ref (r (12 : Int32)))])) _
                              exact X26.areturnOut hx rfl Bd.returns rfl (hb hby d1_122) hr
                            · show Q_rm1 Z p1 r h0 n0 _ T26.heap _
                              rw [e26]
                              exact ⟨by rw [hc116], N0, rfl⟩
                          · have pre_27 : ∀ t, Steps p.tables e below (s₁.setTop (mkF m 126 #[.val (.int p1)] [(.int (13 : Int32)), (.int p1)])) t → Steps p.tables e below (s₁.setTop (entryFrame m #[(.int p1)] 1)) t := by
                              intro t kt
                              refine pre_25 _ ?_
                              show Steps p.tables e below (s₁.setTop (mkF m 116 #[.val (.int p1)] [(.int (12 : Int32)), (.int p1)])) _
                              refine XS.icmpYes X0.here hx rfl (pc0 := 116) (pc' := 123) rfl (hb hby d1_116) rfl (feq hc116).2 (by decide) (by decide) ?_
                              show Steps p.tables e below (s₁.setTop (mkF m 123 #[.val (.int p1)] [])) _
                              refine XS.iloadN X0.here hx rfl (hb hby d1_123) rfl ?_
                              show Steps p.tables e below (s₁.setTop (mkF m 124 #[.val (.int p1)] [(.int p1)])) _
                              refine XS.bipush X0.here hx rfl (hb hby d1_124) ?_
                              exact kt
                            by_cases hc126 : p1 = (13 : Int32)
                            · obtain ⟨T28, X28, e28, st28⟩ := getS2 X0 hx hZ hown (host := "") (Or.inl (hw _ (List.mem_of_getElem? (i := 38) rfl))) Via.refl e0 S_SOUNDSLIKE (g := (mkF m 129 #[.val (.int p1)] [])) rfl (hb hby d1_129)
                              obtain ⟨fs, hr, hrun, hended, hW, hsame⟩ := X28.leave (v := some (.ref (r (13 : Int32)))) (fun h => by rw [Bd.returns] at h; cases h) (hlocks := Bd.notSynchronized)
                              refine ⟨_, _, pre_27 _ ?_, hrun, hended, _, _, rfl, ?_, ⟨_, rfl⟩, hW, hsame.mono (by decide) (by decide)⟩
                              · show Steps p.tables e below (s₁.setTop (mkF m 126 #[.val (.int p1)] [(.int (13 : Int32)), (.int p1)])) _
                                refine XS.icmpNo X0.here hx rfl (hb hby d1_126) rfl (teq hc126).2 ?_
                                show Steps p.tables e below (s₁.setTop (mkF m 129 #[.val (.int p1)] [])) _
                                refine st28 _ ?_
                                show Steps p.tables e below (T28.setTop (mkF m 132 #[.val (.int p1)] [(.ref (r (13 : Int32)))])) _
                                exact X28.areturnOut hx rfl Bd.returns rfl (hb hby d1_132) hr
                              · show Q_rm1 Z p1 r h0 n0 _ T28.heap _
                                rw [e28]
                                exact ⟨by rw [hc126], N0, rfl⟩
                            · have pre_29 : ∀ t, Steps p.tables e below (s₁.setTop (mkF m 136 #[.val (.int p1)] [(.int (14 : Int32)), (.int p1)])) t → Steps p.tables e below (s₁.setTop (entryFrame m #[(.int p1)] 1)) t := by
                                intro t kt
                                refine pre_27 _ ?_
                                show Steps p.tables e below (s₁.setTop (mkF m 126 #[.val (.int p1)] [(.int (13 : Int32)), (.int p1)])) _
                                refine XS.icmpYes X0.here hx rfl (pc0 := 126) (pc' := 133) rfl (hb hby d1_126) rfl (feq hc126).2 (by decide) (by decide) ?_
                                show Steps p.tables e below (s₁.setTop (mkF m 133 #[.val (.int p1)] [])) _
                                refine XS.iloadN X0.here hx rfl (hb hby d1_133) rfl ?_
                                show Steps p.tables e below (s₁.setTop (mkF m 134 #[.val (.int p1)] [(.int p1)])) _
                                refine XS.bipush X0.here hx rfl (hb hby d1_134) ?_
                                exact kt
                              by_cases hc136 : p1 = (14 : Int32)
                              · obtain ⟨T30, X30, e30, st30⟩ := getS2 X0 hx hZ hown (host := "") (Or.inl (hw _ (List.mem_of_getElem? (i := 46) rfl))) Via.refl e0 S_STRIPACCENTS (g := (mkF m 139 #[.val (.int p1)] [])) rfl (hb hby d1_139)
                                obtain ⟨fs, hr, hrun, hended, hW, hsame⟩ := X30.leave (v := some (.ref (r (14 : Int32)))) (fun h => by rw [Bd.returns] at h; cases h) (hlocks := Bd.notSynchronized)
                                refine ⟨_, _, pre_29 _ ?_, hrun, hended, _, _, rfl, ?_, ⟨_, rfl⟩, hW, hsame.mono (by decide) (by decide)⟩
                                · show Steps p.tables e below (s₁.setTop (mkF m 136 #[.val (.int p1)] [(.int (14 : Int32)), (.int p1)])) _
                                  refine XS.icmpNo X0.here hx rfl (hb hby d1_136) rfl (teq hc136).2 ?_
                                  show Steps p.tables e below (s₁.setTop (mkF m 139 #[.val (.int p1)] [])) _
                                  refine st30 _ ?_
                                  show Steps p.tables e below (T30.setTop (mkF m 142 #[.val (.int p1)] [(.ref (r (14 : Int32)))])) _
                                  exact X30.areturnOut hx rfl Bd.returns rfl (hb hby d1_142) hr
                                · show Q_rm1 Z p1 r h0 n0 _ T30.heap _
                                  rw [e30]
                                  exact ⟨by rw [hc136], N0, rfl⟩
                              · have pre_31 : ∀ t, Steps p.tables e below (s₁.setTop (mkF m 146 #[.val (.int p1)] [(.int (15 : Int32)), (.int p1)])) t → Steps p.tables e below (s₁.setTop (entryFrame m #[(.int p1)] 1)) t := by
                                  intro t kt
                                  refine pre_29 _ ?_
                                  show Steps p.tables e below (s₁.setTop (mkF m 136 #[.val (.int p1)] [(.int (14 : Int32)), (.int p1)])) _
                                  refine XS.icmpYes X0.here hx rfl (pc0 := 136) (pc' := 143) rfl (hb hby d1_136) rfl (feq hc136).2 (by decide) (by decide) ?_
                                  show Steps p.tables e below (s₁.setTop (mkF m 143 #[.val (.int p1)] [])) _
                                  refine XS.iloadN X0.here hx rfl (hb hby d1_143) rfl ?_
                                  show Steps p.tables e below (s₁.setTop (mkF m 144 #[.val (.int p1)] [(.int p1)])) _
                                  refine XS.bipush X0.here hx rfl (hb hby d1_144) ?_
                                  exact kt
                                by_cases hc146 : p1 = (15 : Int32)
                                · obtain ⟨T32, X32, e32, st32⟩ := getS2 X0 hx hZ hown (host := "") (Or.inl (hw _ (List.mem_of_getElem? (i := 42) rfl))) Via.refl e0 S_LOWERCASE (g := (mkF m 149 #[.val (.int p1)] [])) rfl (hb hby d1_149)
                                  obtain ⟨fs, hr, hrun, hended, hW, hsame⟩ := X32.leave (v := some (.ref (r (15 : Int32)))) (fun h => by rw [Bd.returns] at h; cases h) (hlocks := Bd.notSynchronized)
                                  refine ⟨_, _, pre_31 _ ?_, hrun, hended, _, _, rfl, ?_, ⟨_, rfl⟩, hW, hsame.mono (by decide) (by decide)⟩
                                  · show Steps p.tables e below (s₁.setTop (mkF m 146 #[.val (.int p1)] [(.int (15 : Int32)), (.int p1)])) _
                                    refine XS.icmpNo X0.here hx rfl (hb hby d1_146) rfl (teq hc146).2 ?_
                                    show Steps p.tables e below (s₁.setTop (mkF m 149 #[.val (.int p1)] [])) _
                                    refine st32 _ ?_
                                    show Steps p.tables e below (T32.setTop (mkF m 152 #[.val (.int p1)] [(.ref (r (15 : Int32)))])) _
                                    exact X32.areturnOut hx rfl Bd.returns rfl (hb hby d1_152) hr
                                  · show Q_rm1 Z p1 r h0 n0 _ T32.heap _
                                    rw [e32]
                                    exact ⟨by rw [hc146], N0, rfl⟩
                                · have pre_33 : ∀ t, Steps p.tables e below (s₁.setTop (mkF m 156 #[.val (.int p1)] [(.int (16 : Int32)), (.int p1)])) t → Steps p.tables e below (s₁.setTop (entryFrame m #[(.int p1)] 1)) t := by
                                    intro t kt
                                    refine pre_31 _ ?_
                                    show Steps p.tables e below (s₁.setTop (mkF m 146 #[.val (.int p1)] [(.int (15 : Int32)), (.int p1)])) _
                                    refine XS.icmpYes X0.here hx rfl (pc0 := 146) (pc' := 153) rfl (hb hby d1_146) rfl (feq hc146).2 (by decide) (by decide) ?_
                                    show Steps p.tables e below (s₁.setTop (mkF m 153 #[.val (.int p1)] [])) _
                                    refine XS.iloadN X0.here hx rfl (hb hby d1_153) rfl ?_
                                    show Steps p.tables e below (s₁.setTop (mkF m 154 #[.val (.int p1)] [(.int p1)])) _
                                    refine XS.bipush X0.here hx rfl (hb hby d1_154) ?_
                                    exact kt
                                  by_cases hc156 : p1 = (16 : Int32)
                                  · obtain ⟨T34, X34, e34, st34⟩ := getS2 X0 hx hZ hown (host := "") (Or.inl (hw _ (List.mem_of_getElem? (i := 32) rfl))) Via.refl e0 S_UPPERCASE (g := (mkF m 159 #[.val (.int p1)] [])) rfl (hb hby d1_159)
                                    obtain ⟨fs, hr, hrun, hended, hW, hsame⟩ := X34.leave (v := some (.ref (r (16 : Int32)))) (fun h => by rw [Bd.returns] at h; cases h) (hlocks := Bd.notSynchronized)
                                    refine ⟨_, _, pre_33 _ ?_, hrun, hended, _, _, rfl, ?_, ⟨_, rfl⟩, hW, hsame.mono (by decide) (by decide)⟩
                                    · show Steps p.tables e below (s₁.setTop (mkF m 156 #[.val (.int p1)] [(.int (16 : Int32)), (.int p1)])) _
                                      refine XS.icmpNo X0.here hx rfl (hb hby d1_156) rfl (teq hc156).2 ?_
                                      show Steps p.tables e below (s₁.setTop (mkF m 159 #[.val (.int p1)] [])) _
                                      refine st34 _ ?_
                                      show Steps p.tables e below (T34.setTop (mkF m 162 #[.val (.int p1)] [(.ref (r (16 : Int32)))])) _
                                      exact X34.areturnOut hx rfl Bd.returns rfl (hb hby d1_162) hr
                                    · show Q_rm1 Z p1 r h0 n0 _ T34.heap _
                                      rw [e34]
                                      exact ⟨by rw [hc156], N0, rfl⟩
                                  · obtain ⟨T35, X35, e35, st35⟩ := getS2 X0 hx hZ hown (host := "") (Or.inl (hw _ (List.mem_of_getElem? (i := 23) rfl))) Via.refl e0 S_AVAIL (g := (mkF m 163 #[.val (.int p1)] [])) rfl (hb hby d1_163)
                                    obtain ⟨fs, hr, hrun, hended, hW, hsame⟩ := X35.leave (v := some (.ref (r (17 : Int32)))) (fun h => by rw [Bd.returns] at h; cases h) (hlocks := Bd.notSynchronized)
                                    refine ⟨_, _, pre_33 _ ?_, hrun, hended, _, _, rfl, ?_, ⟨_, rfl⟩, hW, hsame.mono (by decide) (by decide)⟩
                                    · show Steps p.tables e below (s₁.setTop (mkF m 156 #[.val (.int p1)] [(.int (16 : Int32)), (.int p1)])) _
                                      refine XS.icmpYes X0.here hx rfl (pc0 := 156) (pc' := 163) rfl (hb hby d1_156) rfl (feq hc156).2 (by decide) (by decide) ?_
                                      show Steps p.tables e below (s₁.setTop (mkF m 163 #[.val (.int p1)] [])) _
                                      refine st35 _ ?_
                                      show Steps p.tables e below (T35.setTop (mkF m 166 #[.val (.int p1)] [(.ref (r (17 : Int32)))])) _
                                      exact X35.areturnOut hx rfl Bd.returns rfl (hb hby d1_166) hr
                                    · show Q_rm1 Z p1 r h0 n0 _ T35.heap _
                                      rw [e35]
                                      exact ⟨by rw [own_last hk hc1 hc10 hc19 hc28 hc37 hc46 hc56 hc66 hc76 hc86 hc96 hc106 hc116 hc126 hc136 hc146 hc156], N0, rfl⟩
theorem pn_2 : plainName "com/example/principal/principal/contactbook/select/SelectFunction" = true := by first | (simp [plainName, overriddenIn]; done) | decide +kernel
theorem ef_rm2 (m : MethodId) (x0 : Addr) (x1 : Int32) : entryFrame m #[(.ref x0), (.int x1)] 2 = mkF m 0 #[.val (.ref x0), .val (.int x1)] [] := by first | (simp [entryFrame, mkF, argsToLocals, Value.category]; done) | rfl
def Q_rm2 (Z : State) (p2 : Int32) (r : Int32 → Addr) (k : Int32) (h0 : Heap) (n0 : Nat) (v : Option Value) (h : Heap) (L : List Loc) : Prop := v = some (.int (own_rc k p2)) ∧ Fr n0 L ∧ h = h0
theorem d2_0 : decode prog_41_method_7_code 0 = .ok (.aload_n 0, 1) := by decide +kernel
theorem d2_1 : decode prog_41_method_7_code 1 = .ok (.getstatic 34, 3) := by decide +kernel
theorem d2_4 : decode prog_41_method_7_code 4 = .ok (.if_acmp .eq 21, 3) := by decide +kernel
theorem d2_25 : decode prog_41_method_7_code 25 = .ok (.iconst 1, 1) := by decide +kernel
theorem d2_26 : decode prog_41_method_7_code 26 = .ok (.goto 4, 3) := by decide +kernel
theorem d2_30 : decode prog_41_method_7_code 30 = .ok (.ireturn, 1) := by decide +kernel
theorem d2_7 : decode prog_41_method_7_code 7 = .ok (.iload_n 1, 1) := by decide +kernel
theorem d2_8 : decode prog_41_method_7_code 8 = .ok (.ifCond .ne 21, 3) := by decide +kernel
theorem d2_11 : decode prog_41_method_7_code 11 = .ok (.aload_n 0, 1) := by decide +kernel
theorem d2_12 : decode prog_41_method_7_code 12 = .ok (.getstatic 22, 3) := by decide +kernel
theorem d2_15 : decode prog_41_method_7_code 15 = .ok (.if_acmp .eq 10, 3) := by decide +kernel
theorem d2_18 : decode prog_41_method_7_code 18 = .ok (.aload_n 0, 1) := by decide +kernel
theorem d2_19 : decode prog_41_method_7_code 19 = .ok (.getstatic 25, 3) := by decide +kernel
theorem d2_22 : decode prog_41_method_7_code 22 = .ok (.if_acmp .ne 7, 3) := by decide +kernel
theorem d2_29 : decode prog_41_method_7_code 29 = .ok (.iconst 0, 1) := by decide +kernel
set_option maxRecDepth 65536 in
set_option maxHeartbeats 40000000 in
theorem rm2 (l : Launch) (Z : State) (a0 : Array Value) (hw : ∀ d ∈ tables_1, d.before a0 Z = true) (ws : List Jvm.Cond) (p2 : Int32) (r : Int32 → Addr) (k : Int32) (h0 : Heap) (n0 : Nat) (Z0 : n0 ≤ h0.size) (S_LANG : Sta Z h0 "com/example/principal/principal/contactbook/select/SelectFunction" "LANG" "Lcom/example/principal/principal/contactbook/select/SelectFunction;" (.ref (r (10 : Int32)))) (S_STRING_LENGTH : Sta Z h0 "com/example/principal/principal/contactbook/select/SelectFunction" "STRING_LENGTH" "Lcom/example/principal/principal/contactbook/select/SelectFunction;" (.ref (r (6 : Int32)))) (S_NORMALIZE_SPACE : Sta Z h0 "com/example/principal/principal/contactbook/select/SelectFunction" "NORMALIZE_SPACE" "Lcom/example/principal/principal/contactbook/select/SelectFunction;" (.ref (r (7 : Int32)))) (hk : own_rng k) (J : ∀ i j : Int32, own_rng i → own_rng j → r i = r j → i = j) :
    MetFree l (⟨"com/example/principal/principal/contactbook/select/SelectFunction", "readsContext", "(I)Z"⟩ : MethodName) (head1 (Jvm.Cond.code (⟨"com/example/principal/principal/contactbook/select/SelectFunction", "readsContext", "(I)Z"⟩ : MethodName) prog_41_method_7_code 2 (some .boolean) :: ws) ({ frames := 0, cells := 0, slots := 0, locals := 0 } : Room)) (fun a U => a = #[(.ref (r k)), (.int p2)] ∧ Z.Warmed39 U.vm ∧ U.heap = h0) (fun _ _ _ _ _ => True) (fun _ U o U' => ∃ v L, o = .returned v ∧ Q_rm2 Z p2 r k h0 n0 v U'.heap L ∧ FrameEnd U o U' L ({ frames := 0, cells := 0, slots := 0, locals := 0 } : Room).cells ({ frames := 0, cells := 0, slots := 0, locals := 0 } : Room).slots) := by
  refine MetFree.of_bodySF (plainFor_of_name pn_2) hisR ?_
  intro p e s m args below meth c s₁ Bd hml0 hP hK
  obtain ⟨rfl, hZ, hh⟩ := hP
  have hx := Bd.exec
  have hby := Bd.bytes
  have hml : c.maxLocals = 2 := hml0
  have hown : s.vm.findClass "com/example/principal/principal/contactbook/select/SelectFunction" = some m.cls := findClass_of_methodNamed Bd.named
  have hnm := (name_of_methodNamed Bd.named Bd.method).1
  have X0 : Stand p l e ({ frames := 0, cells := 0, slots := 0, locals := 0 } : Room) s m #[(.ref (r k)), (.int p2)] below meth c s₁ [] 0 0 := Stand.of_body Bd
  have e0 : s₁.heap = h0 := by rw [← hh, Bd.state]; rfl
  have N0 := Fr.nil n0
  have pre0 : ∀ t, Steps p.tables e below (s₁.setTop (mkF m 0 #[.val (.ref (r k)), .val (.int p2)] [])) t → Steps p.tables e below (s₁.setTop (entryFrame m #[(.ref (r k)), (.int p2)] 2)) t := fun t kt => castTop (ef_rm2 m (r k) p2) kt
  obtain ⟨T1, X1, e1, st1⟩ := getS2 X0 hx hZ hown (host := "") (Or.inl (hw _ (List.mem_of_getElem? (i := 13) rfl))) Via.refl e0 S_LANG (g := (mkF m 1 #[.val (.ref (r k)), .val (.int p2)] [(.ref (r k))])) rfl (hb hby d2_1)
  have pre_2 : ∀ t, Steps p.tables e below (T1.setTop (mkF m 4 #[.val (.ref (r k)), .val (.int p2)] [(.ref (r (10 : Int32))), (.ref (r k))])) t → Steps p.tables e below (s₁.setTop (entryFrame m #[(.ref (r k)), (.int p2)] 2)) t := by
    intro t kt
    refine pre0 _ ?_
    show Steps p.tables e below (s₁.setTop (mkF m 0 #[.val (.ref (r k)), .val (.int p2)] [])) _
    refine XS.aloadN X0.here hx rfl (hb hby d2_0) rfl rfl ?_
    show Steps p.tables e below (s₁.setTop (mkF m 1 #[.val (.ref (r k)), .val (.int p2)] [(.ref (r k))])) _
    refine st1 _ ?_
    exact kt
  by_cases hc4 : k = (10 : Int32)
  · obtain ⟨fs, hr, hrun, hended, hW, hsame⟩ := X1.leave (v := some (.int (1 : Int32))) (fun h => by rw [Bd.returns] at h; cases h) (hlocks := Bd.notSynchronized)
    refine ⟨_, _, pre_2 _ ?_, hrun, hended, _, _, rfl, ?_, ⟨_, rfl⟩, hW, hsame.mono (by decide) (by decide)⟩
    · show Steps p.tables e below (T1.setTop (mkF m 4 #[.val (.ref (r k)), .val (.int p2)] [(.ref (r (10 : Int32))), (.ref (r k))])) _
      refine Jvm.RoadKit.acmp (g := (mkF m 4 #[.val (.ref (r k)), .val (.int p2)] [(.ref (r (10 : Int32))), (.ref (r k))])) X1 hx rfl rfl rfl (pc0 := 4) (pc' := 25) (same := true) rfl (hb hby d2_4) rfl (decide_eq_true (congrArg Value.ref (congrArg r hc4))) (by decide) (by decide) ?_
      show Steps p.tables e below (T1.setTop (mkF m 25 #[.val (.ref (r k)), .val (.int p2)] [])) _
      refine XS.iconst X1.here hx rfl (hb hby d2_25) ?_
      show Steps p.tables e below (T1.setTop (mkF m 26 #[.val (.ref (r k)), .val (.int p2)] [(.int (1 : Int32))])) _
      refine XS.goto X1.here hx rfl (pc0 := 26) (pc' := 30) rfl (hb hby d2_26) (by decide) (by decide) ?_
      show Steps p.tables e below (T1.setTop (mkF m 30 #[.val (.ref (r k)), .val (.int p2)] [(.int (1 : Int32))])) _
      exact retN X1 hx (t := .boolean) Bd.returns (by simp) (hb hby d2_30) hr
    · show Q_rm2 Z p2 r k h0 n0 _ T1.heap _
      rw [e1]
      exact ⟨by rw [own_rc, if_pos hc4], N0, rfl⟩
  · have pre_3 : ∀ t, Steps p.tables e below (T1.setTop (mkF m 8 #[.val (.ref (r k)), .val (.int p2)] [(.int p2)])) t → Steps p.tables e below (s₁.setTop (entryFrame m #[(.ref (r k)), (.int p2)] 2)) t := by
      intro t kt
      refine pre_2 _ ?_
      show Steps p.tables e below (T1.setTop (mkF m 4 #[.val (.ref (r k)), .val (.int p2)] [(.ref (r (10 : Int32))), (.ref (r k))])) _
      refine Jvm.RoadKit.acmp (g := (mkF m 4 #[.val (.ref (r k)), .val (.int p2)] [(.ref (r (10 : Int32))), (.ref (r k))])) X1 hx rfl rfl rfl (pc0 := 4) (pc' := 7) (same := false) rfl (hb hby d2_4) rfl (decide_eq_false fun q => (fun z => hc4 (J k 10 hk (by decide) z)) (Value.ref.inj q)) (by decide) (by decide) ?_
      show Steps p.tables e below (T1.setTop (mkF m 7 #[.val (.ref (r k)), .val (.int p2)] [])) _
      refine XS.iloadN X1.here hx rfl (hb hby d2_7) rfl ?_
      exact kt
    by_cases hc8 : p2 = (0 : Int32)
    · obtain ⟨T4, X4, e4, st4⟩ := getS2 X1 hx hZ hown (host := "") (Or.inl (hw _ (List.mem_of_getElem? (i := 17) rfl))) Via.refl e1 S_STRING_LENGTH (g := (mkF m 12 #[.val (.ref (r k)), .val (.int p2)] [(.ref (r k))])) rfl (hb hby d2_12)
      have pre_5 : ∀ t, Steps p.tables e below (T4.setTop (mkF m 15 #[.val (.ref (r k)), .val (.int p2)] [(.ref (r (6 : Int32))), (.ref (r k))])) t → Steps p.tables e below (s₁.setTop (entryFrame m #[(.ref (r k)), (.int p2)] 2)) t := by
        intro t kt
        refine pre_3 _ ?_
        show Steps p.tables e below (T1.setTop (mkF m 8 #[.val (.ref (r k)), .val (.int p2)] [(.int p2)])) _
        refine XS.ifNo X1.here hx rfl (hb hby d2_8) rfl ((if0 _ _).trans (teq hc8).2) ?_
        show Steps p.tables e below (T1.setTop (mkF m 11 #[.val (.ref (r k)), .val (.int p2)] [])) _
        refine XS.aloadN X1.here hx rfl (hb hby d2_11) rfl rfl ?_
        show Steps p.tables e below (T1.setTop (mkF m 12 #[.val (.ref (r k)), .val (.int p2)] [(.ref (r k))])) _
        refine st4 _ ?_
        exact kt
      by_cases hc15 : k = (6 : Int32)
      · obtain ⟨fs, hr, hrun, hended, hW, hsame⟩ := X4.leave (v := some (.int (1 : Int32))) (fun h => by rw [Bd.returns] at h; cases h) (hlocks := Bd.notSynchronized)
        refine ⟨_, _, pre_5 _ ?_, hrun, hended, _, _, rfl, ?_, ⟨_, rfl⟩, hW, hsame.mono (by decide) (by decide)⟩
        · show Steps p.tables e below (T4.setTop (mkF m 15 #[.val (.ref (r k)), .val (.int p2)] [(.ref (r (6 : Int32))), (.ref (r k))])) _
          refine Jvm.RoadKit.acmp (g := (mkF m 15 #[.val (.ref (r k)), .val (.int p2)] [(.ref (r (6 : Int32))), (.ref (r k))])) X4 hx rfl rfl rfl (pc0 := 15) (pc' := 25) (same := true) rfl (hb hby d2_15) rfl (decide_eq_true (congrArg Value.ref (congrArg r hc15))) (by decide) (by decide) ?_
          show Steps p.tables e below (T4.setTop (mkF m 25 #[.val (.ref (r k)), .val (.int p2)] [])) _
          refine XS.iconst X4.here hx rfl (hb hby d2_25) ?_
          show Steps p.tables e below (T4.setTop (mkF m 26 #[.val (.ref (r k)), .val (.int p2)] [(.int (1 : Int32))])) _
          refine XS.goto X4.here hx rfl (pc0 := 26) (pc' := 30) rfl (hb hby d2_26) (by decide) (by decide) ?_
          show Steps p.tables e below (T4.setTop (mkF m 30 #[.val (.ref (r k)), .val (.int p2)] [(.int (1 : Int32))])) _
          exact retN X4 hx (t := .boolean) Bd.returns (by simp) (hb hby d2_30) hr
        · show Q_rm2 Z p2 r k h0 n0 _ T4.heap _
          rw [e4]
          exact ⟨by rw [own_rc, if_neg hc4, if_pos hc8, if_pos hc15], N0, rfl⟩
      · obtain ⟨T6, X6, e6, st6⟩ := getS2 X4 hx hZ hown (host := "") (Or.inl (hw _ (List.mem_of_getElem? (i := 19) rfl))) Via.refl e4 S_NORMALIZE_SPACE (g := (mkF m 19 #[.val (.ref (r k)), .val (.int p2)] [(.ref (r k))])) rfl (hb hby d2_19)
        have pre_7 : ∀ t, Steps p.tables e below (T6.setTop (mkF m 22 #[.val (.ref (r k)), .val (.int p2)] [(.ref (r (7 : Int32))), (.ref (r k))])) t → Steps p.tables e below (s₁.setTop (entryFrame m #[(.ref (r k)), (.int p2)] 2)) t := by
          intro t kt
          refine pre_5 _ ?_
          show Steps p.tables e below (T4.setTop (mkF m 15 #[.val (.ref (r k)), .val (.int p2)] [(.ref (r (6 : Int32))), (.ref (r k))])) _
          refine Jvm.RoadKit.acmp (g := (mkF m 15 #[.val (.ref (r k)), .val (.int p2)] [(.ref (r (6 : Int32))), (.ref (r k))])) X4 hx rfl rfl rfl (pc0 := 15) (pc' := 18) (same := false) rfl (hb hby d2_15) rfl (decide_eq_false fun q => (fun z => hc15 (J k 6 hk (by decide) z)) (Value.ref.inj q)) (by decide) (by decide) ?_
          show Steps p.tables e below (T4.setTop (mkF m 18 #[.val (.ref (r k)), .val (.int p2)] [])) _
          refine XS.aloadN X4.here hx rfl (hb hby d2_18) rfl rfl ?_
          show Steps p.tables e below (T4.setTop (mkF m 19 #[.val (.ref (r k)), .val (.int p2)] [(.ref (r k))])) _
          refine st6 _ ?_
          exact kt
        by_cases hc22 : k = (7 : Int32)
        · obtain ⟨fs, hr, hrun, hended, hW, hsame⟩ := X6.leave (v := some (.int (1 : Int32))) (fun h => by rw [Bd.returns] at h; cases h) (hlocks := Bd.notSynchronized)
          refine ⟨_, _, pre_7 _ ?_, hrun, hended, _, _, rfl, ?_, ⟨_, rfl⟩, hW, hsame.mono (by decide) (by decide)⟩
          · show Steps p.tables e below (T6.setTop (mkF m 22 #[.val (.ref (r k)), .val (.int p2)] [(.ref (r (7 : Int32))), (.ref (r k))])) _
            refine Jvm.RoadKit.acmp (g := (mkF m 22 #[.val (.ref (r k)), .val (.int p2)] [(.ref (r (7 : Int32))), (.ref (r k))])) X6 hx rfl rfl rfl (pc0 := 22) (pc' := 25) (same := true) rfl (hb hby d2_22) rfl (decide_eq_true (congrArg Value.ref (congrArg r hc22))) (by decide) (by decide) ?_
            show Steps p.tables e below (T6.setTop (mkF m 25 #[.val (.ref (r k)), .val (.int p2)] [])) _
            refine XS.iconst X6.here hx rfl (hb hby d2_25) ?_
            show Steps p.tables e below (T6.setTop (mkF m 26 #[.val (.ref (r k)), .val (.int p2)] [(.int (1 : Int32))])) _
            refine XS.goto X6.here hx rfl (pc0 := 26) (pc' := 30) rfl (hb hby d2_26) (by decide) (by decide) ?_
            show Steps p.tables e below (T6.setTop (mkF m 30 #[.val (.ref (r k)), .val (.int p2)] [(.int (1 : Int32))])) _
            exact retN X6 hx (t := .boolean) Bd.returns (by simp) (hb hby d2_30) hr
          · show Q_rm2 Z p2 r k h0 n0 _ T6.heap _
            rw [e6]
            exact ⟨by rw [own_rc, if_neg hc4, if_pos hc8, if_neg hc15, if_pos hc22], N0, rfl⟩
        · obtain ⟨fs, hr, hrun, hended, hW, hsame⟩ := X6.leave (v := some (.int (0 : Int32))) (fun h => by rw [Bd.returns] at h; cases h) (hlocks := Bd.notSynchronized)
          refine ⟨_, _, pre_7 _ ?_, hrun, hended, _, _, rfl, ?_, ⟨_, rfl⟩, hW, hsame.mono (by decide) (by decide)⟩
          · show Steps p.tables e below (T6.setTop (mkF m 22 #[.val (.ref (r k)), .val (.int p2)] [(.ref (r (7 : Int32))), (.ref (r k))])) _
            refine Jvm.RoadKit.acmp (g := (mkF m 22 #[.val (.ref (r k)), .val (.int p2)] [(.ref (r (7 : Int32))), (.ref (r k))])) X6 hx rfl rfl rfl (pc0 := 22) (pc' := 29) (same := false) rfl (hb hby d2_22) rfl (decide_eq_false fun q => (fun z => hc22 (J k 7 hk (by decide) z)) (Value.ref.inj q)) (by decide) (by decide) ?_
            show Steps p.tables e below (T6.setTop (mkF m 29 #[.val (.ref (r k)), .val (.int p2)] [])) _
            refine XS.iconst X6.here hx rfl (hb hby d2_29) ?_
            show Steps p.tables e below (T6.setTop (mkF m 30 #[.val (.ref (r k)), .val (.int p2)] [(.int (0 : Int32))])) _
            exact retN X6 hx (t := .boolean) Bd.returns (by simp) (hb hby d2_30) hr
          · show Q_rm2 Z p2 r k h0 n0 _ T6.heap _
            rw [e6]
            exact ⟨by rw [own_rc, if_neg hc4, if_pos hc8, if_neg hc15, if_neg hc22], N0, rfl⟩
    · obtain ⟨fs, hr, hrun, hended, hW, hsame⟩ := X1.leave (v := some (.int (0 : Int32))) (fun h => by rw [Bd.returns] at h; cases h) (hlocks := Bd.notSynchronized)
      refine ⟨_, _, pre_3 _ ?_, hrun, hended, _, _, rfl, ?_, ⟨_, rfl⟩, hW, hsame.mono (by decide) (by decide)⟩
      · show Steps p.tables e below (T1.setTop (mkF m 8 #[.val (.ref (r k)), .val (.int p2)] [(.int p2)])) _
        refine XS.ifYes X1.here hx rfl (pc0 := 8) (pc' := 29) rfl (hb hby d2_8) rfl ((if0 _ _).trans (feq hc8).2) (by decide) (by decide) ?_
        show Steps p.tables e below (T1.setTop (mkF m 29 #[.val (.ref (r k)), .val (.int p2)] [])) _
        refine XS.iconst X1.here hx rfl (hb hby d2_29) ?_
        show Steps p.tables e below (T1.setTop (mkF m 30 #[.val (.ref (r k)), .val (.int p2)] [(.int (0 : Int32))])) _
        exact retN X1 hx (t := .boolean) Bd.returns (by simp) (hb hby d2_30) hr
      · show Q_rm2 Z p2 r k h0 n0 _ T1.heap _
        rw [e1]
        exact ⟨by rw [own_rc, if_neg hc4, if_neg hc8], N0, rfl⟩
theorem pn_0 : plainName "com/example/principal/principal/contactbook/select/SelectFunctionReadsContextPinLaw" = true := by first | (simp [plainName, overriddenIn]; done) | decide +kernel
theorem ef_rm0 (m : MethodId) (x0 : Int32) (x1 : Int32) (x2 : Int32) : entryFrame m #[(.int x0), (.int x1), (.int x2)] maxLocals = mkF m 0 #[.val (.int x0), .val (.int x1), .val (.int x2), .unset, .unset, .unset, .unset] [] := by first | (simp [entryFrame, mkF, argsToLocals, Value.category, maxLocals]; done) | rfl
def Q_rm0 (Z : State) (p1 : Int32) (p2 : Int32) (p3 : Int32) (r : Int32 → Addr) (h0 : Heap) (n0 : Nat) (v : Option Value) (h : Heap) (L : List Loc) : Prop := v = some (.int 1) ∧ Fr n0 L
theorem pd__I_Lcom_example_principal_principal_contactbook_select_Selec_6823 : parseMethodDescriptor "(I)Lcom/example/principal/principal/contactbook/select/SelectFunction;" = some ⟨[.int], some (.object "com/example/principal/principal/contactbook/select/SelectFunction")⟩ := by decide +kernel
theorem pd__I_Z_244 : parseMethodDescriptor "(I)Z" = some ⟨[.int], some .boolean⟩ := by decide +kernel
set_option maxRecDepth 65536 in
set_option maxHeartbeats 40000000 in
theorem rm0 (l : Launch) (Z : State) (a0 : Array Value) (hw : ∀ d ∈ tables_1, d.before a0 Z = true) (ws : List Jvm.Cond) (p1 : Int32) (p2 : Int32) (p3 : Int32) (r : Int32 → Addr) (h0 : Heap) (n0 : Nat) (Z0 : n0 ≤ h0.size) (S_CONCAT : Sta Z h0 "com/example/principal/principal/contactbook/select/SelectFunction" "CONCAT" "Lcom/example/principal/principal/contactbook/select/SelectFunction;" (.ref (r (0 : Int32)))) (S_STARTS_WITH : Sta Z h0 "com/example/principal/principal/contactbook/select/SelectFunction" "STARTS_WITH" "Lcom/example/principal/principal/contactbook/select/SelectFunction;" (.ref (r (1 : Int32)))) (S_CONTAINS : Sta Z h0 "com/example/principal/principal/contactbook/select/SelectFunction" "CONTAINS" "Lcom/example/principal/principal/contactbook/select/SelectFunction;" (.ref (r (2 : Int32)))) (S_SUBSTRING_BEFORE : Sta Z h0 "com/example/principal/principal/contactbook/select/SelectFunction" "SUBSTRING_BEFORE" "Lcom/example/principal/principal/contactbook/select/SelectFunction;" (.ref (r (3 : Int32)))) (S_SUBSTRING_AFTER : Sta Z h0 "com/example/principal/principal/contactbook/select/SelectFunction" "SUBSTRING_AFTER" "Lcom/example/principal/principal/contactbook/select/SelectFunction;" (.ref (r (4 : Int32)))) (S_SUBSTRING : Sta Z h0 "com/example/principal/principal/contactbook/select/SelectFunction" "SUBSTRING" "Lcom/example/principal/principal/contactbook/select/SelectFunction;" (.ref (r (5 : Int32)))) (S_STRING_LENGTH : Sta Z h0 "com/example/principal/principal/contactbook/select/SelectFunction" "STRING_LENGTH" "Lcom/example/principal/principal/contactbook/select/SelectFunction;" (.ref (r (6 : Int32)))) (S_NORMALIZE_SPACE : Sta Z h0 "com/example/principal/principal/contactbook/select/SelectFunction" "NORMALIZE_SPACE" "Lcom/example/principal/principal/contactbook/select/SelectFunction;" (.ref (r (7 : Int32)))) (S_TRANSLATE : Sta Z h0 "com/example/principal/principal/contactbook/select/SelectFunction" "TRANSLATE" "Lcom/example/principal/principal/contactbook/select/SelectFunction;" (.ref (r (8 : Int32)))) (S_NOT : Sta Z h0 "com/example/principal/principal/contactbook/select/SelectFunction" "NOT" "Lcom/example/principal/principal/contactbook/select/SelectFunction;" (.ref (r (9 : Int32)))) (S_LANG : Sta Z h0 "com/example/principal/principal/contactbook/select/SelectFunction" "LANG" "Lcom/example/principal/principal/contactbook/select/SelectFunction;" (.ref (r (10 : Int32)))) (S_LE : Sta Z h0 "com/example/principal/principal/contactbook/select/SelectFunction" "LE" "Lcom/example/principal/principal/contactbook/select/SelectFunction;" (.ref (r (11 : Int32)))) (S_GE : Sta Z h0 "com/example/principal/principal/contactbook/select/SelectFunction" "GE" "Lcom/example/principal/principal/contactbook/select/SelectFunction;" (.ref (r (12 : Int32)))) (S_SOUNDSLIKE : Sta Z h0 "com/example/principal/principal/contactbook/select/SelectFunction" "SOUNDSLIKE" "Lcom/example/principal/principal/contactbook/select/SelectFunction;" (.ref (r (13 : Int32)))) (S_STRIPACCENTS : Sta Z h0 "com/example/principal/principal/contactbook/select/SelectFunction" "STRIPACCENTS" "Lcom/example/principal/principal/contactbook/select/SelectFunction;" (.ref (r (14 : Int32)))) (S_LOWERCASE : Sta Z h0 "com/example/principal/principal/contactbook/select/SelectFunction" "LOWERCASE" "Lcom/example/principal/principal/contactbook/select/SelectFunction;" (.ref (r (15 : Int32)))) (S_UPPERCASE : Sta Z h0 "com/example/principal/principal/contactbook/select/SelectFunction" "UPPERCASE" "Lcom/example/principal/principal/contactbook/select/SelectFunction;" (.ref (r (16 : Int32)))) (S_AVAIL : Sta Z h0 "com/example/principal/principal/contactbook/select/SelectFunction" "AVAIL" "Lcom/example/principal/principal/contactbook/select/SelectFunction;" (.ref (r (17 : Int32)))) (J : ∀ i j : Int32, own_rng i → own_rng j → r i = r j → i = j) (EX : ∀ i : Int32, own_rng i → Exa Z h0 (r i) "com/example/principal/principal/contactbook/select/SelectFunction") :
    MetFree l x (head1 (Jvm.Cond.code x code maxLocals ret :: ws) room_1) (fun a U => a = #[(.int p1), (.int p2), (.int p3)] ∧ Z.Warmed39 U.vm ∧ U.heap = h0) (fun _ _ _ _ _ => True) (fun _ U o U' => ∃ v L, o = .returned v ∧ Q_rm0 Z p1 p2 p3 r h0 n0 v U'.heap L ∧ FrameEnd U o U' L room_1.cells room_1.slots) := by
  refine MetFree.of_bodySF (plainFor_of_name pn_0) hisR ?_
  intro p e s m args below meth c s₁ Bd hml0 hP hK
  obtain ⟨rfl, hZ, hh⟩ := hP
  have hx := Bd.exec
  have hby := Bd.bytes
  have hml : c.maxLocals = 7 := hml0
  have hown : s.vm.findClass "com/example/principal/principal/contactbook/select/SelectFunctionReadsContextPinLaw" = some m.cls := findClass_of_methodNamed Bd.named
  have hnm := (name_of_methodNamed Bd.named Bd.method).1
  have X0 : Stand p l e room_1 s m #[(.int p1), (.int p2), (.int p3)] below meth c s₁ [] 0 0 := Stand.of_body Bd
  have e0 : s₁.heap = h0 := by rw [← hh, Bd.state]; rfl
  have N0 := Fr.nil n0
  have pre0 : ∀ t, Steps p.tables e below (s₁.setTop (mkF m 0 #[.val (.int p1), .val (.int p2), .val (.int p3), .unset, .unset, .unset, .unset] [])) t → Steps p.tables e below (s₁.setTop (entryFrame m #[(.int p1), (.int p2), (.int p3)] maxLocals)) t := fun t kt => castTop (ef_rm0 m p1 p2 p3) kt
  have pre_1 : ∀ t, Steps p.tables e below (s₁.setTop (mkF m 19 #[.val (.int p1), .val (.int p2), .val (.int p3), .val (.int (own_k p1)), .unset, .unset, .unset] [(.int (if (p3 &&& (1 : Int32)) = (0 : Int32) then p2 else (0 : Int32)))])) t → Steps p.tables e below (s₁.setTop (entryFrame m #[(.int p1), (.int p2), (.int p3)] maxLocals)) t := by
    intro t kt
    refine pre0 _ ?_
    show Steps p.tables e below (s₁.setTop (mkF m 0 #[.val (.int p1), .val (.int p2), .val (.int p3), .unset, .unset, .unset, .unset] [])) _
    refine XS.iloadN X0.here hx rfl (hb hby at_0) rfl ?_
    show Steps p.tables e below (s₁.setTop (mkF m 1 #[.val (.int p1), .val (.int p2), .val (.int p3), .unset, .unset, .unset, .unset] [(.int p1)])) _
    refine X0.ldcInt hx hown (mvT hZ (hw _ (List.mem_of_getElem? (i := 0) rfl))) (g := (mkF m 1 #[.val (.int p1), .val (.int p2), .val (.int p3), .unset, .unset, .unset, .unset] [(.int p1)])) rfl (hb hby at_1) _ ?_
    show Steps p.tables e below (s₁.setTop (mkF m 3 #[.val (.int p1), .val (.int p2), .val (.int p3), .unset, .unset, .unset, .unset] [(.int (2147483647 : Int32)), (.int p1)])) _
    refine XS.iand X0.here hx rfl (hb hby at_3) rfl ?_
    show Steps p.tables e below (s₁.setTop (mkF m 4 #[.val (.int p1), .val (.int p2), .val (.int p3), .unset, .unset, .unset, .unset] [(.int (p1 &&& (2147483647 : Int32)))])) _
    refine XS.bipush X0.here hx rfl (hb hby at_4) ?_
    show Steps p.tables e below (s₁.setTop (mkF m 6 #[.val (.int p1), .val (.int p2), .val (.int p3), .unset, .unset, .unset, .unset] [(.int (18 : Int32)), (.int (p1 &&& (2147483647 : Int32)))])) _
    refine XS.irem X0.here hx rfl (hb hby at_6) rfl (by decide) ?_
    show Steps p.tables e below (s₁.setTop (mkF m 7 #[.val (.int p1), .val (.int p2), .val (.int p3), .unset, .unset, .unset, .unset] [(.int ((p1 &&& (2147483647 : Int32)) - ((p1 &&& (2147483647 : Int32)) / (18 : Int32)) * (18 : Int32)))])) _
    refine XS.istoreN X0.here hx rfl (hb hby at_7) rfl (l' := #[.val (.int p1), .val (.int p2), .val (.int p3), .val (.int ((p1 &&& (2147483647 : Int32)) - ((p1 &&& (2147483647 : Int32)) / (18 : Int32)) * (18 : Int32))), .unset, .unset, .unset]) rfl ?_
    show Steps p.tables e below (s₁.setTop (mkF m 8 #[.val (.int p1), .val (.int p2), .val (.int p3), .val (.int (own_k p1)), .unset, .unset, .unset] [])) _
    refine XS.iloadN X0.here hx rfl (hb hby at_8) rfl ?_
    show Steps p.tables e below (s₁.setTop (mkF m 9 #[.val (.int p1), .val (.int p2), .val (.int p3), .val (.int (own_k p1)), .unset, .unset, .unset] [(.int p3)])) _
    refine XS.iconst X0.here hx rfl (hb hby at_9) ?_
    show Steps p.tables e below (s₁.setTop (mkF m 10 #[.val (.int p1), .val (.int p2), .val (.int p3), .val (.int (own_k p1)), .unset, .unset, .unset] [(.int (1 : Int32)), (.int p3)])) _
    refine XS.iand X0.here hx rfl (hb hby at_10) rfl ?_
    show Steps p.tables e below (s₁.setTop (mkF m 11 #[.val (.int p1), .val (.int p2), .val (.int p3), .val (.int (own_k p1)), .unset, .unset, .unset] [(.int (p3 &&& (1 : Int32)))])) _
    by_cases hc11 : (p3 &&& (1 : Int32)) = (0 : Int32)
    · rw [if_pos hc11] at kt
      refine XS.ifYes X0.here hx rfl (pc0 := 11) (pc' := 18) rfl (hb hby at_11) rfl ((if0 _ _).trans (teq hc11).1) (by decide) (by decide) ?_
      show Steps p.tables e below (s₁.setTop (mkF m 18 #[.val (.int p1), .val (.int p2), .val (.int p3), .val (.int (own_k p1)), .unset, .unset, .unset] [])) _
      refine XS.iloadN X0.here hx rfl (hb hby at_18) rfl ?_
      exact kt
    · rw [if_neg hc11] at kt
      refine XS.ifNo X0.here hx rfl (hb hby at_11) rfl ((if0 _ _).trans (feq hc11).1) ?_
      show Steps p.tables e below (s₁.setTop (mkF m 14 #[.val (.int p1), .val (.int p2), .val (.int p3), .val (.int (own_k p1)), .unset, .unset, .unset] [])) _
      refine XS.iconst X0.here hx rfl (hb hby at_14) ?_
      show Steps p.tables e below (s₁.setTop (mkF m 15 #[.val (.int p1), .val (.int p2), .val (.int p3), .val (.int (own_k p1)), .unset, .unset, .unset] [(.int (0 : Int32))])) _
      refine XS.goto X0.here hx rfl (pc0 := 15) (pc' := 19) rfl (hb hby at_15) (by decide) (by decide) ?_
      exact kt
  obtain ⟨_, _, ⟨T2, L2, k2, n2⟩, -, X2, ⟨Lc2, hQ2, l2, y2, z2⟩, st2⟩ := Jvm.LawKit.callS X0 hx (y := (⟨"com/example/principal/principal/contactbook/select/SelectFunctionReadsContextPinLaw", "pick", "(I)Lcom/example/principal/principal/contactbook/select/SelectFunction;"⟩ : MethodName)) hown (mvT hZ (hw _ (List.mem_of_getElem? (i := 1) rfl))) (mvT hZ (hw _ (List.mem_of_getElem? (i := 2) rfl))) (mvT hZ (hw _ (List.mem_of_getElem? (i := 3) rfl))) (mvT hZ (hw _ (List.mem_of_getElem? (i := 4) rfl))) (by decide) (backOf (W := 0) (rm1 l Z a0 hw [] (own_k p1) r h0 n0 Z0 S_CONCAT S_STARTS_WITH S_CONTAINS S_SUBSTRING_BEFORE S_SUBSTRING_AFTER S_SUBSTRING S_STRING_LENGTH S_NORMALIZE_SPACE S_TRANSLATE S_NOT S_LANG S_LE S_GE S_SOUNDSLIKE S_STRIPACCENTS S_LOWERCASE S_UPPERCASE S_AVAIL (own_k_rng p1)) hZ (hw _ (List.mem_of_getElem? (i := 4) rfl)) (hw _ (List.mem_of_getElem? (i := 3) rfl)) (by decide) (by decide)) (g := (mkF m 22 #[.val (.int p1), .val (.int p2), .val (.int p3), .val (.int (own_k p1)), .val (.int (own_n p2 p3)), .unset, .unset] [(.int (own_k p1))])) rfl (by rw [hml]; rfl) (argsL := [(.int (own_k p1))]) (rest := []) (lenOf pd__I_Lcom_example_principal_principal_contactbook_select_Selec_6823 rfl) rfl (by show 2 * 0 + _ ≤ _; exact Nat.le_of_eq rfl) (hb hby at_22) (fun _ _ => ⟨rfl, e0, (by decide : 0 + 0 ≤ _), (by decide : 0 + 0 ≤ _)⟩)
  dsimp only [Pt.U, Pt.locs, Pt.cells, Pt.slots] at X2 l2 y2 z2 st2 hQ2
  subst l2 y2 z2
  obtain ⟨rfl, N2q, e2⟩ := hQ2
  have N2 := Fr.app N0 N2q
  have pre_3 : ∀ t, Steps p.tables e below (T2.setTop (mkF m 30 #[.val (.int p1), .val (.int p2), .val (.int p3), .val (.int (own_k p1)), .val (.int (own_n p2 p3)), .val (.ref (r (own_k p1))), .unset] [(.int (10 : Int32)), (.int (own_k p1))])) t → Steps p.tables e below (s₁.setTop (entryFrame m #[(.int p1), (.int p2), (.int p3)] maxLocals)) t := by
    intro t kt
    refine pre_1 _ ?_
    show Steps p.tables e below (s₁.setTop (mkF m 19 #[.val (.int p1), .val (.int p2), .val (.int p3), .val (.int (own_k p1)), .unset, .unset, .unset] [(.int (own_n p2 p3))])) _
    refine XS.istore X0.here hx rfl (hb hby at_19) rfl (l' := #[.val (.int p1), .val (.int p2), .val (.int p3), .val (.int (own_k p1)), .val (.int (own_n p2 p3)), .unset, .unset]) rfl ?_
    show Steps p.tables e below (s₁.setTop (mkF m 21 #[.val (.int p1), .val (.int p2), .val (.int p3), .val (.int (own_k p1)), .val (.int (own_n p2 p3)), .unset, .unset] [])) _
    refine XS.iloadN X0.here hx rfl (hb hby at_21) rfl ?_
    show Steps p.tables e below (s₁.setTop (mkF m 22 #[.val (.int p1), .val (.int p2), .val (.int p3), .val (.int (own_k p1)), .val (.int (own_n p2 p3)), .unset, .unset] [(.int (own_k p1))])) _
    refine st2 _ ?_
    show Steps p.tables e below (T2.setTop (mkF m 25 #[.val (.int p1), .val (.int p2), .val (.int p3), .val (.int (own_k p1)), .val (.int (own_n p2 p3)), .unset, .unset] [(.ref (r (own_k p1)))])) _
    refine XS.astore X2.here hx rfl (hb hby at_25) rfl rfl (l' := #[.val (.int p1), .val (.int p2), .val (.int p3), .val (.int (own_k p1)), .val (.int (own_n p2 p3)), .val (.ref (r (own_k p1))), .unset]) rfl ?_
    show Steps p.tables e below (T2.setTop (mkF m 27 #[.val (.int p1), .val (.int p2), .val (.int p3), .val (.int (own_k p1)), .val (.int (own_n p2 p3)), .val (.ref (r (own_k p1))), .unset] [])) _
    refine XS.iloadN X2.here hx rfl (hb hby at_27) rfl ?_
    show Steps p.tables e below (T2.setTop (mkF m 28 #[.val (.int p1), .val (.int p2), .val (.int p3), .val (.int (own_k p1)), .val (.int (own_n p2 p3)), .val (.ref (r (own_k p1))), .unset] [(.int (own_k p1))])) _
    refine XS.bipush X2.here hx rfl (hb hby at_28) ?_
    exact kt
  by_cases hc30 : (own_k p1) = (10 : Int32)
  · obtain ⟨cq4, kq4, q4a, q4b, q4c⟩ := isOf hZ e2 (EX _ (own_k_rng p1))
    obtain ⟨_, _, ⟨T4, L4, k4, n4⟩, -, X4, ⟨Lc4, hQ4, l4, y4, z4⟩, st4⟩ := X2.virtualBack hx (y := (⟨"com/example/principal/principal/contactbook/select/SelectFunction", "readsContext", "(I)Z"⟩ : MethodName)) (z := (⟨"com/example/principal/principal/contactbook/select/SelectFunction", "readsContext", "(I)Z"⟩ : MethodName)) hown (mvT hZ (hw _ (List.mem_of_getElem? (i := 8) rfl))) (mvT hZ (hw _ (List.mem_of_getElem? (i := 9) rfl))) (notFace_of_selects (args := #[]) (mvT hZ (hw _ (List.mem_of_getElem? (i := 11) rfl)))) (mvT hZ (hw _ (List.mem_of_getElem? (i := 11) rfl))) (mvT hZ (hw _ (List.mem_of_getElem? (i := 10) rfl))) (by decide) (backOf (W := 0) (rm2 l Z a0 hw [] (own_n p2 p3) r (own_k p1) h0 n0 Z0 S_LANG S_STRING_LENGTH S_NORMALIZE_SPACE (own_k_rng p1) J) hZ (hw _ (List.mem_of_getElem? (i := 12) rfl)) (hw _ (List.mem_of_getElem? (i := 6) rfl)) (by decide) (by decide)) q4a q4c (g := (mkF m 61 #[.val (.int p1), .val (.int p2), .val (.int p3), .val (.int (own_k p1)), .val (.int (own_n p2 p3)), .val (.ref (r (own_k p1))), .val (.int (1 : Int32))] [(.int (own_n p2 p3)), (.ref (r (own_k p1)))])) rfl (by rw [hml]; rfl) (Steps.refl _) (argsL := [(.int (own_n p2 p3))]) (rest := []) (lenOf pd__I_Z_244 rfl) rfl (by show 2 * 0 + _ ≤ _; exact Nat.le_of_eq rfl) (hb hby at_61) (fun _ _ => ⟨rfl, e2, (by decide : 0 + 0 ≤ _), (by decide : 0 + 0 ≤ _)⟩)
    dsimp only [Pt.U, Pt.locs, Pt.cells, Pt.slots] at X4 l4 y4 z4 st4 hQ4
    subst l4 y4 z4
    obtain ⟨rfl, N4q, e4⟩ := hQ4
    have N4 := Fr.app N2 N4q
    obtain ⟨fs, hr, hrun, hended, hW, hsame⟩ := X4.leave (v := some (.int (1 : Int32))) (fun h => by rw [Bd.returns] at h; cases h) (hlocks := Bd.notSynchronized)
    refine ⟨_, _, pre_3 _ ?_, hrun, hended, _, _, rfl, ?_, ⟨_, rfl⟩, hW, hsame.mono (by decide) (by decide)⟩
    · show Steps p.tables e below (T2.setTop (mkF m 30 #[.val (.int p1), .val (.int p2), .val (.int p3), .val (.int (own_k p1)), .val (.int (own_n p2 p3)), .val (.ref (r (own_k p1))), .unset] [(.int (10 : Int32)), (.int (own_k p1))])) _
      refine XS.icmpYes X2.here hx rfl (pc0 := 30) (pc' := 50) rfl (hb hby at_30) rfl (teq hc30).1 (by decide) (by decide) ?_
      show Steps p.tables e below (T2.setTop (mkF m 50 #[.val (.int p1), .val (.int p2), .val (.int p3), .val (.int (own_k p1)), .val (.int (own_n p2 p3)), .val (.ref (r (own_k p1))), .unset] [])) _
      refine XS.iconst X2.here hx rfl (hb hby at_50) ?_
      show Steps p.tables e below (T2.setTop (mkF m 51 #[.val (.int p1), .val (.int p2), .val (.int p3), .val (.int (own_k p1)), .val (.int (own_n p2 p3)), .val (.ref (r (own_k p1))), .unset] [(.int (1 : Int32))])) _
      refine XS.goto X2.here hx rfl (pc0 := 51) (pc' := 55) rfl (hb hby at_51) (by decide) (by decide) ?_
      show Steps p.tables e below (T2.setTop (mkF m 55 #[.val (.int p1), .val (.int p2), .val (.int p3), .val (.int (own_k p1)), .val (.int (own_n p2 p3)), .val (.ref (r (own_k p1))), .unset] [(.int (1 : Int32))])) _
      refine XS.istore X2.here hx rfl (hb hby at_55) rfl (l' := #[.val (.int p1), .val (.int p2), .val (.int p3), .val (.int (own_k p1)), .val (.int (own_n p2 p3)), .val (.ref (r (own_k p1))), .val (.int (1 : Int32))]) rfl ?_
      show Steps p.tables e below (T2.setTop (mkF m 57 #[.val (.int p1), .val (.int p2), .val (.int p3), .val (.int (own_k p1)), .val (.int (own_n p2 p3)), .val (.ref (r (own_k p1))), .val (.int (1 : Int32))] [])) _
      refine XS.aload X2.here hx rfl (hb hby at_57) rfl rfl ?_
      show Steps p.tables e below (T2.setTop (mkF m 59 #[.val (.int p1), .val (.int p2), .val (.int p3), .val (.int (own_k p1)), .val (.int (own_n p2 p3)), .val (.ref (r (own_k p1))), .val (.int (1 : Int32))] [(.ref (r (own_k p1)))])) _
      refine XS.iload X2.here hx rfl (hb hby at_59) rfl ?_
      show Steps p.tables e below (T2.setTop (mkF m 61 #[.val (.int p1), .val (.int p2), .val (.int p3), .val (.int (own_k p1)), .val (.int (own_n p2 p3)), .val (.ref (r (own_k p1))), .val (.int (1 : Int32))] [(.int (own_n p2 p3)), (.ref (r (own_k p1)))])) _
      refine st4.trans ?_
      show Steps p.tables e below (T4.setTop (mkF m 64 #[.val (.int p1), .val (.int p2), .val (.int p3), .val (.int (own_k p1)), .val (.int (own_n p2 p3)), .val (.ref (r (own_k p1))), .val (.int (1 : Int32))] [(.int (own_rc (own_k p1) (own_n p2 p3)))])) _
      refine XS.iload X4.here hx rfl (hb hby at_64) rfl ?_
      show Steps p.tables e below (T4.setTop (mkF m 66 #[.val (.int p1), .val (.int p2), .val (.int p3), .val (.int (own_k p1)), .val (.int (own_n p2 p3)), .val (.ref (r (own_k p1))), .val (.int (1 : Int32))] [(.int (1 : Int32)), (.int (own_rc (own_k p1) (own_n p2 p3)))])) _
      refine XS.icmpNo X4.here hx rfl (hb hby at_66) rfl (teq (by rw [own_rc, if_pos hc30])).2 ?_
      show Steps p.tables e below (T4.setTop (mkF m 69 #[.val (.int p1), .val (.int p2), .val (.int p3), .val (.int (own_k p1)), .val (.int (own_n p2 p3)), .val (.ref (r (own_k p1))), .val (.int (1 : Int32))] [])) _
      refine XS.iconst X4.here hx rfl (hb hby at_69) ?_
      show Steps p.tables e below (T4.setTop (mkF m 70 #[.val (.int p1), .val (.int p2), .val (.int p3), .val (.int (own_k p1)), .val (.int (own_n p2 p3)), .val (.ref (r (own_k p1))), .val (.int (1 : Int32))] [(.int (1 : Int32))])) _
      refine XS.goto X4.here hx rfl (pc0 := 70) (pc' := 74) rfl (hb hby at_70) (by decide) (by decide) ?_
      show Steps p.tables e below (T4.setTop (mkF m 74 #[.val (.int p1), .val (.int p2), .val (.int p3), .val (.int (own_k p1)), .val (.int (own_n p2 p3)), .val (.ref (r (own_k p1))), .val (.int (1 : Int32))] [(.int (1 : Int32))])) _
      exact retN X4 hx (t := .boolean) Bd.returns (by simp) (hb hby at_74) hr
    · show Q_rm0 Z p1 p2 p3 r h0 n0 _ T4.heap _
      rw [e4]
      exact ⟨rfl, N4⟩
  · have pre_5 : ∀ t, Steps p.tables e below (T2.setTop (mkF m 35 #[.val (.int p1), .val (.int p2), .val (.int p3), .val (.int (own_k p1)), .val (.int (own_n p2 p3)), .val (.ref (r (own_k p1))), .unset] [(.int (own_n p2 p3))])) t → Steps p.tables e below (s₁.setTop (entryFrame m #[(.int p1), (.int p2), (.int p3)] maxLocals)) t := by
      intro t kt
      refine pre_3 _ ?_
      show Steps p.tables e below (T2.setTop (mkF m 30 #[.val (.int p1), .val (.int p2), .val (.int p3), .val (.int (own_k p1)), .val (.int (own_n p2 p3)), .val (.ref (r (own_k p1))), .unset] [(.int (10 : Int32)), (.int (own_k p1))])) _
      refine XS.icmpNo X2.here hx rfl (hb hby at_30) rfl (feq hc30).1 ?_
      show Steps p.tables e below (T2.setTop (mkF m 33 #[.val (.int p1), .val (.int p2), .val (.int p3), .val (.int (own_k p1)), .val (.int (own_n p2 p3)), .val (.ref (r (own_k p1))), .unset] [])) _
      refine XS.iload X2.here hx rfl (hb hby at_33) rfl ?_
      exact kt
    by_cases hc35 : (own_n p2 p3) = (0 : Int32)
    · have pre_6 : ∀ t, Steps p.tables e below (T2.setTop (mkF m 41 #[.val (.int p1), .val (.int p2), .val (.int p3), .val (.int (own_k p1)), .val (.int (own_n p2 p3)), .val (.ref (r (own_k p1))), .unset] [(.int (6 : Int32)), (.int (own_k p1))])) t → Steps p.tables e below (s₁.setTop (entryFrame m #[(.int p1), (.int p2), (.int p3)] maxLocals)) t := by
        intro t kt
        refine pre_5 _ ?_
        show Steps p.tables e below (T2.setTop (mkF m 35 #[.val (.int p1), .val (.int p2), .val (.int p3), .val (.int (own_k p1)), .val (.int (own_n p2 p3)), .val (.ref (r (own_k p1))), .unset] [(.int (own_n p2 p3))])) _
        refine XS.ifNo X2.here hx rfl (hb hby at_35) rfl ((if0 _ _).trans (teq hc35).2) ?_
        show Steps p.tables e below (T2.setTop (mkF m 38 #[.val (.int p1), .val (.int p2), .val (.int p3), .val (.int (own_k p1)), .val (.int (own_n p2 p3)), .val (.ref (r (own_k p1))), .unset] [])) _
        refine XS.iloadN X2.here hx rfl (hb hby at_38) rfl ?_
        show Steps p.tables e below (T2.setTop (mkF m 39 #[.val (.int p1), .val (.int p2), .val (.int p3), .val (.int (own_k p1)), .val (.int (own_n p2 p3)), .val (.ref (r (own_k p1))), .unset] [(.int (own_k p1))])) _
        refine XS.bipush X2.here hx rfl (hb hby at_39) ?_
        exact kt
      by_cases hc41 : (own_k p1) = (6 : Int32)
      · obtain ⟨cq7, kq7, q7a, q7b, q7c⟩ := isOf hZ e2 (EX _ (own_k_rng p1))
        obtain ⟨_, _, ⟨T7, L7, k7, n7⟩, -, X7, ⟨Lc7, hQ7, l7, y7, z7⟩, st7⟩ := X2.virtualBack hx (y := (⟨"com/example/principal/principal/contactbook/select/SelectFunction", "readsContext", "(I)Z"⟩ : MethodName)) (z := (⟨"com/example/principal/principal/contactbook/select/SelectFunction", "readsContext", "(I)Z"⟩ : MethodName)) hown (mvT hZ (hw _ (List.mem_of_getElem? (i := 8) rfl))) (mvT hZ (hw _ (List.mem_of_getElem? (i := 9) rfl))) (notFace_of_selects (args := #[]) (mvT hZ (hw _ (List.mem_of_getElem? (i := 11) rfl)))) (mvT hZ (hw _ (List.mem_of_getElem? (i := 11) rfl))) (mvT hZ (hw _ (List.mem_of_getElem? (i := 10) rfl))) (by decide) (backOf (W := 0) (rm2 l Z a0 hw [] (own_n p2 p3) r (own_k p1) h0 n0 Z0 S_LANG S_STRING_LENGTH S_NORMALIZE_SPACE (own_k_rng p1) J) hZ (hw _ (List.mem_of_getElem? (i := 12) rfl)) (hw _ (List.mem_of_getElem? (i := 6) rfl)) (by decide) (by decide)) q7a q7c (g := (mkF m 61 #[.val (.int p1), .val (.int p2), .val (.int p3), .val (.int (own_k p1)), .val (.int (own_n p2 p3)), .val (.ref (r (own_k p1))), .val (.int (1 : Int32))] [(.int (own_n p2 p3)), (.ref (r (own_k p1)))])) rfl (by rw [hml]; rfl) (Steps.refl _) (argsL := [(.int (own_n p2 p3))]) (rest := []) (lenOf pd__I_Z_244 rfl) rfl (by show 2 * 0 + _ ≤ _; exact Nat.le_of_eq rfl) (hb hby at_61) (fun _ _ => ⟨rfl, e2, (by decide : 0 + 0 ≤ _), (by decide : 0 + 0 ≤ _)⟩)
        dsimp only [Pt.U, Pt.locs, Pt.cells, Pt.slots] at X7 l7 y7 z7 st7 hQ7
        subst l7 y7 z7
        obtain ⟨rfl, N7q, e7⟩ := hQ7
        have N7 := Fr.app N2 N7q
        obtain ⟨fs, hr, hrun, hended, hW, hsame⟩ := X7.leave (v := some (.int (1 : Int32))) (fun h => by rw [Bd.returns] at h; cases h) (hlocks := Bd.notSynchronized)
        refine ⟨_, _, pre_6 _ ?_, hrun, hended, _, _, rfl, ?_, ⟨_, rfl⟩, hW, hsame.mono (by decide) (by decide)⟩
        · show Steps p.tables e below (T2.setTop (mkF m 41 #[.val (.int p1), .val (.int p2), .val (.int p3), .val (.int (own_k p1)), .val (.int (own_n p2 p3)), .val (.ref (r (own_k p1))), .unset] [(.int (6 : Int32)), (.int (own_k p1))])) _
          refine XS.icmpYes X2.here hx rfl (pc0 := 41) (pc' := 50) rfl (hb hby at_41) rfl (teq hc41).1 (by decide) (by decide) ?_
          show Steps p.tables e below (T2.setTop (mkF m 50 #[.val (.int p1), .val (.int p2), .val (.int p3), .val (.int (own_k p1)), .val (.int (own_n p2 p3)), .val (.ref (r (own_k p1))), .unset] [])) _
          refine XS.iconst X2.here hx rfl (hb hby at_50) ?_
          show Steps p.tables e below (T2.setTop (mkF m 51 #[.val (.int p1), .val (.int p2), .val (.int p3), .val (.int (own_k p1)), .val (.int (own_n p2 p3)), .val (.ref (r (own_k p1))), .unset] [(.int (1 : Int32))])) _
          refine XS.goto X2.here hx rfl (pc0 := 51) (pc' := 55) rfl (hb hby at_51) (by decide) (by decide) ?_
          show Steps p.tables e below (T2.setTop (mkF m 55 #[.val (.int p1), .val (.int p2), .val (.int p3), .val (.int (own_k p1)), .val (.int (own_n p2 p3)), .val (.ref (r (own_k p1))), .unset] [(.int (1 : Int32))])) _
          refine XS.istore X2.here hx rfl (hb hby at_55) rfl (l' := #[.val (.int p1), .val (.int p2), .val (.int p3), .val (.int (own_k p1)), .val (.int (own_n p2 p3)), .val (.ref (r (own_k p1))), .val (.int (1 : Int32))]) rfl ?_
          show Steps p.tables e below (T2.setTop (mkF m 57 #[.val (.int p1), .val (.int p2), .val (.int p3), .val (.int (own_k p1)), .val (.int (own_n p2 p3)), .val (.ref (r (own_k p1))), .val (.int (1 : Int32))] [])) _
          refine XS.aload X2.here hx rfl (hb hby at_57) rfl rfl ?_
          show Steps p.tables e below (T2.setTop (mkF m 59 #[.val (.int p1), .val (.int p2), .val (.int p3), .val (.int (own_k p1)), .val (.int (own_n p2 p3)), .val (.ref (r (own_k p1))), .val (.int (1 : Int32))] [(.ref (r (own_k p1)))])) _
          refine XS.iload X2.here hx rfl (hb hby at_59) rfl ?_
          show Steps p.tables e below (T2.setTop (mkF m 61 #[.val (.int p1), .val (.int p2), .val (.int p3), .val (.int (own_k p1)), .val (.int (own_n p2 p3)), .val (.ref (r (own_k p1))), .val (.int (1 : Int32))] [(.int (own_n p2 p3)), (.ref (r (own_k p1)))])) _
          refine st7.trans ?_
          show Steps p.tables e below (T7.setTop (mkF m 64 #[.val (.int p1), .val (.int p2), .val (.int p3), .val (.int (own_k p1)), .val (.int (own_n p2 p3)), .val (.ref (r (own_k p1))), .val (.int (1 : Int32))] [(.int (own_rc (own_k p1) (own_n p2 p3)))])) _
          refine XS.iload X7.here hx rfl (hb hby at_64) rfl ?_
          show Steps p.tables e below (T7.setTop (mkF m 66 #[.val (.int p1), .val (.int p2), .val (.int p3), .val (.int (own_k p1)), .val (.int (own_n p2 p3)), .val (.ref (r (own_k p1))), .val (.int (1 : Int32))] [(.int (1 : Int32)), (.int (own_rc (own_k p1) (own_n p2 p3)))])) _
          refine XS.icmpNo X7.here hx rfl (hb hby at_66) rfl (teq (by rw [own_rc, if_neg hc30, if_pos hc35, if_pos hc41])).2 ?_
          show Steps p.tables e below (T7.setTop (mkF m 69 #[.val (.int p1), .val (.int p2), .val (.int p3), .val (.int (own_k p1)), .val (.int (own_n p2 p3)), .val (.ref (r (own_k p1))), .val (.int (1 : Int32))] [])) _
          refine XS.iconst X7.here hx rfl (hb hby at_69) ?_
          show Steps p.tables e below (T7.setTop (mkF m 70 #[.val (.int p1), .val (.int p2), .val (.int p3), .val (.int (own_k p1)), .val (.int (own_n p2 p3)), .val (.ref (r (own_k p1))), .val (.int (1 : Int32))] [(.int (1 : Int32))])) _
          refine XS.goto X7.here hx rfl (pc0 := 70) (pc' := 74) rfl (hb hby at_70) (by decide) (by decide) ?_
          show Steps p.tables e below (T7.setTop (mkF m 74 #[.val (.int p1), .val (.int p2), .val (.int p3), .val (.int (own_k p1)), .val (.int (own_n p2 p3)), .val (.ref (r (own_k p1))), .val (.int (1 : Int32))] [(.int (1 : Int32))])) _
          exact retN X7 hx (t := .boolean) Bd.returns (by simp) (hb hby at_74) hr
        · show Q_rm0 Z p1 p2 p3 r h0 n0 _ T7.heap _
          rw [e7]
          exact ⟨rfl, N7⟩
      · have pre_8 : ∀ t, Steps p.tables e below (T2.setTop (mkF m 47 #[.val (.int p1), .val (.int p2), .val (.int p3), .val (.int (own_k p1)), .val (.int (own_n p2 p3)), .val (.ref (r (own_k p1))), .unset] [(.int (7 : Int32)), (.int (own_k p1))])) t → Steps p.tables e below (s₁.setTop (entryFrame m #[(.int p1), (.int p2), (.int p3)] maxLocals)) t := by
          intro t kt
          refine pre_6 _ ?_
          show Steps p.tables e below (T2.setTop (mkF m 41 #[.val (.int p1), .val (.int p2), .val (.int p3), .val (.int (own_k p1)), .val (.int (own_n p2 p3)), .val (.ref (r (own_k p1))), .unset] [(.int (6 : Int32)), (.int (own_k p1))])) _
          refine XS.icmpNo X2.here hx rfl (hb hby at_41) rfl (feq hc41).1 ?_
          show Steps p.tables e below (T2.setTop (mkF m 44 #[.val (.int p1), .val (.int p2), .val (.int p3), .val (.int (own_k p1)), .val (.int (own_n p2 p3)), .val (.ref (r (own_k p1))), .unset] [])) _
          refine XS.iloadN X2.here hx rfl (hb hby at_44) rfl ?_
          show Steps p.tables e below (T2.setTop (mkF m 45 #[.val (.int p1), .val (.int p2), .val (.int p3), .val (.int (own_k p1)), .val (.int (own_n p2 p3)), .val (.ref (r (own_k p1))), .unset] [(.int (own_k p1))])) _
          refine XS.bipush X2.here hx rfl (hb hby at_45) ?_
          exact kt
        by_cases hc47 : (own_k p1) = (7 : Int32)
        · obtain ⟨cq9, kq9, q9a, q9b, q9c⟩ := isOf hZ e2 (EX _ (own_k_rng p1))
          obtain ⟨_, _, ⟨T9, L9, k9, n9⟩, -, X9, ⟨Lc9, hQ9, l9, y9, z9⟩, st9⟩ := X2.virtualBack hx (y := (⟨"com/example/principal/principal/contactbook/select/SelectFunction", "readsContext", "(I)Z"⟩ : MethodName)) (z := (⟨"com/example/principal/principal/contactbook/select/SelectFunction", "readsContext", "(I)Z"⟩ : MethodName)) hown (mvT hZ (hw _ (List.mem_of_getElem? (i := 8) rfl))) (mvT hZ (hw _ (List.mem_of_getElem? (i := 9) rfl))) (notFace_of_selects (args := #[]) (mvT hZ (hw _ (List.mem_of_getElem? (i := 11) rfl)))) (mvT hZ (hw _ (List.mem_of_getElem? (i := 11) rfl))) (mvT hZ (hw _ (List.mem_of_getElem? (i := 10) rfl))) (by decide) (backOf (W := 0) (rm2 l Z a0 hw [] (own_n p2 p3) r (own_k p1) h0 n0 Z0 S_LANG S_STRING_LENGTH S_NORMALIZE_SPACE (own_k_rng p1) J) hZ (hw _ (List.mem_of_getElem? (i := 12) rfl)) (hw _ (List.mem_of_getElem? (i := 6) rfl)) (by decide) (by decide)) q9a q9c (g := (mkF m 61 #[.val (.int p1), .val (.int p2), .val (.int p3), .val (.int (own_k p1)), .val (.int (own_n p2 p3)), .val (.ref (r (own_k p1))), .val (.int (1 : Int32))] [(.int (own_n p2 p3)), (.ref (r (own_k p1)))])) rfl (by rw [hml]; rfl) (Steps.refl _) (argsL := [(.int (own_n p2 p3))]) (rest := []) (lenOf pd__I_Z_244 rfl) rfl (by show 2 * 0 + _ ≤ _; exact Nat.le_of_eq rfl) (hb hby at_61) (fun _ _ => ⟨rfl, e2, (by decide : 0 + 0 ≤ _), (by decide : 0 + 0 ≤ _)⟩)
          dsimp only [Pt.U, Pt.locs, Pt.cells, Pt.slots] at X9 l9 y9 z9 st9 hQ9
          subst l9 y9 z9
          obtain ⟨rfl, N9q, e9⟩ := hQ9
          have N9 := Fr.app N2 N9q
          obtain ⟨fs, hr, hrun, hended, hW, hsame⟩ := X9.leave (v := some (.int (1 : Int32))) (fun h => by rw [Bd.returns] at h; cases h) (hlocks := Bd.notSynchronized)
          refine ⟨_, _, pre_8 _ ?_, hrun, hended, _, _, rfl, ?_, ⟨_, rfl⟩, hW, hsame.mono (by decide) (by decide)⟩
          · show Steps p.tables e below (T2.setTop (mkF m 47 #[.val (.int p1), .val (.int p2), .val (.int p3), .val (.int (own_k p1)), .val (.int (own_n p2 p3)), .val (.ref (r (own_k p1))), .unset] [(.int (7 : Int32)), (.int (own_k p1))])) _
            refine XS.icmpNo X2.here hx rfl (hb hby at_47) rfl (teq hc47).2 ?_
            show Steps p.tables e below (T2.setTop (mkF m 50 #[.val (.int p1), .val (.int p2), .val (.int p3), .val (.int (own_k p1)), .val (.int (own_n p2 p3)), .val (.ref (r (own_k p1))), .unset] [])) _
            refine XS.iconst X2.here hx rfl (hb hby at_50) ?_
            show Steps p.tables e below (T2.setTop (mkF m 51 #[.val (.int p1), .val (.int p2), .val (.int p3), .val (.int (own_k p1)), .val (.int (own_n p2 p3)), .val (.ref (r (own_k p1))), .unset] [(.int (1 : Int32))])) _
            refine XS.goto X2.here hx rfl (pc0 := 51) (pc' := 55) rfl (hb hby at_51) (by decide) (by decide) ?_
            show Steps p.tables e below (T2.setTop (mkF m 55 #[.val (.int p1), .val (.int p2), .val (.int p3), .val (.int (own_k p1)), .val (.int (own_n p2 p3)), .val (.ref (r (own_k p1))), .unset] [(.int (1 : Int32))])) _
            refine XS.istore X2.here hx rfl (hb hby at_55) rfl (l' := #[.val (.int p1), .val (.int p2), .val (.int p3), .val (.int (own_k p1)), .val (.int (own_n p2 p3)), .val (.ref (r (own_k p1))), .val (.int (1 : Int32))]) rfl ?_
            show Steps p.tables e below (T2.setTop (mkF m 57 #[.val (.int p1), .val (.int p2), .val (.int p3), .val (.int (own_k p1)), .val (.int (own_n p2 p3)), .val (.ref (r (own_k p1))), .val (.int (1 : Int32))] [])) _
            refine XS.aload X2.here hx rfl (hb hby at_57) rfl rfl ?_
            show Steps p.tables e below (T2.setTop (mkF m 59 #[.val (.int p1), .val (.int p2), .val (.int p3), .val (.int (own_k p1)), .val (.int (own_n p2 p3)), .val (.ref (r (own_k p1))), .val (.int (1 : Int32))] [(.ref (r (own_k p1)))])) _
            refine XS.iload X2.here hx rfl (hb hby at_59) rfl ?_
            show Steps p.tables e below (T2.setTop (mkF m 61 #[.val (.int p1), .val (.int p2), .val (.int p3), .val (.int (own_k p1)), .val (.int (own_n p2 p3)), .val (.ref (r (own_k p1))), .val (.int (1 : Int32))] [(.int (own_n p2 p3)), (.ref (r (own_k p1)))])) _
            refine st9.trans ?_
            show Steps p.tables e below (T9.setTop (mkF m 64 #[.val (.int p1), .val (.int p2), .val (.int p3), .val (.int (own_k p1)), .val (.int (own_n p2 p3)), .val (.ref (r (own_k p1))), .val (.int (1 : Int32))] [(.int (own_rc (own_k p1) (own_n p2 p3)))])) _
            refine XS.iload X9.here hx rfl (hb hby at_64) rfl ?_
            show Steps p.tables e below (T9.setTop (mkF m 66 #[.val (.int p1), .val (.int p2), .val (.int p3), .val (.int (own_k p1)), .val (.int (own_n p2 p3)), .val (.ref (r (own_k p1))), .val (.int (1 : Int32))] [(.int (1 : Int32)), (.int (own_rc (own_k p1) (own_n p2 p3)))])) _
            refine XS.icmpNo X9.here hx rfl (hb hby at_66) rfl (teq (by rw [own_rc, if_neg hc30, if_pos hc35, if_neg hc41, if_pos hc47])).2 ?_
            show Steps p.tables e below (T9.setTop (mkF m 69 #[.val (.int p1), .val (.int p2), .val (.int p3), .val (.int (own_k p1)), .val (.int (own_n p2 p3)), .val (.ref (r (own_k p1))), .val (.int (1 : Int32))] [])) _
            refine XS.iconst X9.here hx rfl (hb hby at_69) ?_
            show Steps p.tables e below (T9.setTop (mkF m 70 #[.val (.int p1), .val (.int p2), .val (.int p3), .val (.int (own_k p1)), .val (.int (own_n p2 p3)), .val (.ref (r (own_k p1))), .val (.int (1 : Int32))] [(.int (1 : Int32))])) _
            refine XS.goto X9.here hx rfl (pc0 := 70) (pc' := 74) rfl (hb hby at_70) (by decide) (by decide) ?_
            show Steps p.tables e below (T9.setTop (mkF m 74 #[.val (.int p1), .val (.int p2), .val (.int p3), .val (.int (own_k p1)), .val (.int (own_n p2 p3)), .val (.ref (r (own_k p1))), .val (.int (1 : Int32))] [(.int (1 : Int32))])) _
            exact retN X9 hx (t := .boolean) Bd.returns (by simp) (hb hby at_74) hr
          · show Q_rm0 Z p1 p2 p3 r h0 n0 _ T9.heap _
            rw [e9]
            exact ⟨rfl, N9⟩
        · obtain ⟨cq10, kq10, q10a, q10b, q10c⟩ := isOf hZ e2 (EX _ (own_k_rng p1))
          obtain ⟨_, _, ⟨T10, L10, k10, n10⟩, -, X10, ⟨Lc10, hQ10, l10, y10, z10⟩, st10⟩ := X2.virtualBack hx (y := (⟨"com/example/principal/principal/contactbook/select/SelectFunction", "readsContext", "(I)Z"⟩ : MethodName)) (z := (⟨"com/example/principal/principal/contactbook/select/SelectFunction", "readsContext", "(I)Z"⟩ : MethodName)) hown (mvT hZ (hw _ (List.mem_of_getElem? (i := 8) rfl))) (mvT hZ (hw _ (List.mem_of_getElem? (i := 9) rfl))) (notFace_of_selects (args := #[]) (mvT hZ (hw _ (List.mem_of_getElem? (i := 11) rfl)))) (mvT hZ (hw _ (List.mem_of_getElem? (i := 11) rfl))) (mvT hZ (hw _ (List.mem_of_getElem? (i := 10) rfl))) (by decide) (backOf (W := 0) (rm2 l Z a0 hw [] (own_n p2 p3) r (own_k p1) h0 n0 Z0 S_LANG S_STRING_LENGTH S_NORMALIZE_SPACE (own_k_rng p1) J) hZ (hw _ (List.mem_of_getElem? (i := 12) rfl)) (hw _ (List.mem_of_getElem? (i := 6) rfl)) (by decide) (by decide)) q10a q10c (g := (mkF m 61 #[.val (.int p1), .val (.int p2), .val (.int p3), .val (.int (own_k p1)), .val (.int (own_n p2 p3)), .val (.ref (r (own_k p1))), .val (.int (0 : Int32))] [(.int (own_n p2 p3)), (.ref (r (own_k p1)))])) rfl (by rw [hml]; rfl) (Steps.refl _) (argsL := [(.int (own_n p2 p3))]) (rest := []) (lenOf pd__I_Z_244 rfl) rfl (by show 2 * 0 + _ ≤ _; exact Nat.le_of_eq rfl) (hb hby at_61) (fun _ _ => ⟨rfl, e2, (by decide : 0 + 0 ≤ _), (by decide : 0 + 0 ≤ _)⟩)
          dsimp only [Pt.U, Pt.locs, Pt.cells, Pt.slots] at X10 l10 y10 z10 st10 hQ10
          subst l10 y10 z10
          obtain ⟨rfl, N10q, e10⟩ := hQ10
          have N10 := Fr.app N2 N10q
          obtain ⟨fs, hr, hrun, hended, hW, hsame⟩ := X10.leave (v := some (.int (1 : Int32))) (fun h => by rw [Bd.returns] at h; cases h) (hlocks := Bd.notSynchronized)
          refine ⟨_, _, pre_8 _ ?_, hrun, hended, _, _, rfl, ?_, ⟨_, rfl⟩, hW, hsame.mono (by decide) (by decide)⟩
          · show Steps p.tables e below (T2.setTop (mkF m 47 #[.val (.int p1), .val (.int p2), .val (.int p3), .val (.int (own_k p1)), .val (.int (own_n p2 p3)), .val (.ref (r (own_k p1))), .unset] [(.int (7 : Int32)), (.int (own_k p1))])) _
            refine XS.icmpYes X2.here hx rfl (pc0 := 47) (pc' := 54) rfl (hb hby at_47) rfl (feq hc47).2 (by decide) (by decide) ?_
            show Steps p.tables e below (T2.setTop (mkF m 54 #[.val (.int p1), .val (.int p2), .val (.int p3), .val (.int (own_k p1)), .val (.int (own_n p2 p3)), .val (.ref (r (own_k p1))), .unset] [])) _
            refine XS.iconst X2.here hx rfl (hb hby at_54) ?_
            show Steps p.tables e below (T2.setTop (mkF m 55 #[.val (.int p1), .val (.int p2), .val (.int p3), .val (.int (own_k p1)), .val (.int (own_n p2 p3)), .val (.ref (r (own_k p1))), .unset] [(.int (0 : Int32))])) _
            refine XS.istore X2.here hx rfl (hb hby at_55) rfl (l' := #[.val (.int p1), .val (.int p2), .val (.int p3), .val (.int (own_k p1)), .val (.int (own_n p2 p3)), .val (.ref (r (own_k p1))), .val (.int (0 : Int32))]) rfl ?_
            show Steps p.tables e below (T2.setTop (mkF m 57 #[.val (.int p1), .val (.int p2), .val (.int p3), .val (.int (own_k p1)), .val (.int (own_n p2 p3)), .val (.ref (r (own_k p1))), .val (.int (0 : Int32))] [])) _
            refine XS.aload X2.here hx rfl (hb hby at_57) rfl rfl ?_
            show Steps p.tables e below (T2.setTop (mkF m 59 #[.val (.int p1), .val (.int p2), .val (.int p3), .val (.int (own_k p1)), .val (.int (own_n p2 p3)), .val (.ref (r (own_k p1))), .val (.int (0 : Int32))] [(.ref (r (own_k p1)))])) _
            refine XS.iload X2.here hx rfl (hb hby at_59) rfl ?_
            show Steps p.tables e below (T2.setTop (mkF m 61 #[.val (.int p1), .val (.int p2), .val (.int p3), .val (.int (own_k p1)), .val (.int (own_n p2 p3)), .val (.ref (r (own_k p1))), .val (.int (0 : Int32))] [(.int (own_n p2 p3)), (.ref (r (own_k p1)))])) _
            refine st10.trans ?_
            show Steps p.tables e below (T10.setTop (mkF m 64 #[.val (.int p1), .val (.int p2), .val (.int p3), .val (.int (own_k p1)), .val (.int (own_n p2 p3)), .val (.ref (r (own_k p1))), .val (.int (0 : Int32))] [(.int (own_rc (own_k p1) (own_n p2 p3)))])) _
            refine XS.iload X10.here hx rfl (hb hby at_64) rfl ?_
            show Steps p.tables e below (T10.setTop (mkF m 66 #[.val (.int p1), .val (.int p2), .val (.int p3), .val (.int (own_k p1)), .val (.int (own_n p2 p3)), .val (.ref (r (own_k p1))), .val (.int (0 : Int32))] [(.int (0 : Int32)), (.int (own_rc (own_k p1) (own_n p2 p3)))])) _
            refine XS.icmpNo X10.here hx rfl (hb hby at_66) rfl (teq (by rw [own_rc, if_neg hc30, if_pos hc35, if_neg hc41, if_neg hc47])).2 ?_
            show Steps p.tables e below (T10.setTop (mkF m 69 #[.val (.int p1), .val (.int p2), .val (.int p3), .val (.int (own_k p1)), .val (.int (own_n p2 p3)), .val (.ref (r (own_k p1))), .val (.int (0 : Int32))] [])) _
            refine XS.iconst X10.here hx rfl (hb hby at_69) ?_
            show Steps p.tables e below (T10.setTop (mkF m 70 #[.val (.int p1), .val (.int p2), .val (.int p3), .val (.int (own_k p1)), .val (.int (own_n p2 p3)), .val (.ref (r (own_k p1))), .val (.int (0 : Int32))] [(.int (1 : Int32))])) _
            refine XS.goto X10.here hx rfl (pc0 := 70) (pc' := 74) rfl (hb hby at_70) (by decide) (by decide) ?_
            show Steps p.tables e below (T10.setTop (mkF m 74 #[.val (.int p1), .val (.int p2), .val (.int p3), .val (.int (own_k p1)), .val (.int (own_n p2 p3)), .val (.ref (r (own_k p1))), .val (.int (0 : Int32))] [(.int (1 : Int32))])) _
            exact retN X10 hx (t := .boolean) Bd.returns (by simp) (hb hby at_74) hr
          · show Q_rm0 Z p1 p2 p3 r h0 n0 _ T10.heap _
            rw [e10]
            exact ⟨rfl, N10⟩
    · obtain ⟨cq11, kq11, q11a, q11b, q11c⟩ := isOf hZ e2 (EX _ (own_k_rng p1))
      obtain ⟨_, _, ⟨T11, L11, k11, n11⟩, -, X11, ⟨Lc11, hQ11, l11, y11, z11⟩, st11⟩ := X2.virtualBack hx (y := (⟨"com/example/principal/principal/contactbook/select/SelectFunction", "readsContext", "(I)Z"⟩ : MethodName)) (z := (⟨"com/example/principal/principal/contactbook/select/SelectFunction", "readsContext", "(I)Z"⟩ : MethodName)) hown (mvT hZ (hw _ (List.mem_of_getElem? (i := 8) rfl))) (mvT hZ (hw _ (List.mem_of_getElem? (i := 9) rfl))) (notFace_of_selects (args := #[]) (mvT hZ (hw _ (List.mem_of_getElem? (i := 11) rfl)))) (mvT hZ (hw _ (List.mem_of_getElem? (i := 11) rfl))) (mvT hZ (hw _ (List.mem_of_getElem? (i := 10) rfl))) (by decide) (backOf (W := 0) (rm2 l Z a0 hw [] (own_n p2 p3) r (own_k p1) h0 n0 Z0 S_LANG S_STRING_LENGTH S_NORMALIZE_SPACE (own_k_rng p1) J) hZ (hw _ (List.mem_of_getElem? (i := 12) rfl)) (hw _ (List.mem_of_getElem? (i := 6) rfl)) (by decide) (by decide)) q11a q11c (g := (mkF m 61 #[.val (.int p1), .val (.int p2), .val (.int p3), .val (.int (own_k p1)), .val (.int (own_n p2 p3)), .val (.ref (r (own_k p1))), .val (.int (0 : Int32))] [(.int (own_n p2 p3)), (.ref (r (own_k p1)))])) rfl (by rw [hml]; rfl) (Steps.refl _) (argsL := [(.int (own_n p2 p3))]) (rest := []) (lenOf pd__I_Z_244 rfl) rfl (by show 2 * 0 + _ ≤ _; exact Nat.le_of_eq rfl) (hb hby at_61) (fun _ _ => ⟨rfl, e2, (by decide : 0 + 0 ≤ _), (by decide : 0 + 0 ≤ _)⟩)
      dsimp only [Pt.U, Pt.locs, Pt.cells, Pt.slots] at X11 l11 y11 z11 st11 hQ11
      subst l11 y11 z11
      obtain ⟨rfl, N11q, e11⟩ := hQ11
      have N11 := Fr.app N2 N11q
      obtain ⟨fs, hr, hrun, hended, hW, hsame⟩ := X11.leave (v := some (.int (1 : Int32))) (fun h => by rw [Bd.returns] at h; cases h) (hlocks := Bd.notSynchronized)
      refine ⟨_, _, pre_5 _ ?_, hrun, hended, _, _, rfl, ?_, ⟨_, rfl⟩, hW, hsame.mono (by decide) (by decide)⟩
      · show Steps p.tables e below (T2.setTop (mkF m 35 #[.val (.int p1), .val (.int p2), .val (.int p3), .val (.int (own_k p1)), .val (.int (own_n p2 p3)), .val (.ref (r (own_k p1))), .unset] [(.int (own_n p2 p3))])) _
        refine XS.ifYes X2.here hx rfl (pc0 := 35) (pc' := 54) rfl (hb hby at_35) rfl ((if0 _ _).trans (feq hc35).2) (by decide) (by decide) ?_
        show Steps p.tables e below (T2.setTop (mkF m 54 #[.val (.int p1), .val (.int p2), .val (.int p3), .val (.int (own_k p1)), .val (.int (own_n p2 p3)), .val (.ref (r (own_k p1))), .unset] [])) _
        refine XS.iconst X2.here hx rfl (hb hby at_54) ?_
        show Steps p.tables e below (T2.setTop (mkF m 55 #[.val (.int p1), .val (.int p2), .val (.int p3), .val (.int (own_k p1)), .val (.int (own_n p2 p3)), .val (.ref (r (own_k p1))), .unset] [(.int (0 : Int32))])) _
        refine XS.istore X2.here hx rfl (hb hby at_55) rfl (l' := #[.val (.int p1), .val (.int p2), .val (.int p3), .val (.int (own_k p1)), .val (.int (own_n p2 p3)), .val (.ref (r (own_k p1))), .val (.int (0 : Int32))]) rfl ?_
        show Steps p.tables e below (T2.setTop (mkF m 57 #[.val (.int p1), .val (.int p2), .val (.int p3), .val (.int (own_k p1)), .val (.int (own_n p2 p3)), .val (.ref (r (own_k p1))), .val (.int (0 : Int32))] [])) _
        refine XS.aload X2.here hx rfl (hb hby at_57) rfl rfl ?_
        show Steps p.tables e below (T2.setTop (mkF m 59 #[.val (.int p1), .val (.int p2), .val (.int p3), .val (.int (own_k p1)), .val (.int (own_n p2 p3)), .val (.ref (r (own_k p1))), .val (.int (0 : Int32))] [(.ref (r (own_k p1)))])) _
        refine XS.iload X2.here hx rfl (hb hby at_59) rfl ?_
        show Steps p.tables e below (T2.setTop (mkF m 61 #[.val (.int p1), .val (.int p2), .val (.int p3), .val (.int (own_k p1)), .val (.int (own_n p2 p3)), .val (.ref (r (own_k p1))), .val (.int (0 : Int32))] [(.int (own_n p2 p3)), (.ref (r (own_k p1)))])) _
        refine st11.trans ?_
        show Steps p.tables e below (T11.setTop (mkF m 64 #[.val (.int p1), .val (.int p2), .val (.int p3), .val (.int (own_k p1)), .val (.int (own_n p2 p3)), .val (.ref (r (own_k p1))), .val (.int (0 : Int32))] [(.int (own_rc (own_k p1) (own_n p2 p3)))])) _
        refine XS.iload X11.here hx rfl (hb hby at_64) rfl ?_
        show Steps p.tables e below (T11.setTop (mkF m 66 #[.val (.int p1), .val (.int p2), .val (.int p3), .val (.int (own_k p1)), .val (.int (own_n p2 p3)), .val (.ref (r (own_k p1))), .val (.int (0 : Int32))] [(.int (0 : Int32)), (.int (own_rc (own_k p1) (own_n p2 p3)))])) _
        refine XS.icmpNo X11.here hx rfl (hb hby at_66) rfl (teq (by rw [own_rc, if_neg hc30, if_neg hc35])).2 ?_
        show Steps p.tables e below (T11.setTop (mkF m 69 #[.val (.int p1), .val (.int p2), .val (.int p3), .val (.int (own_k p1)), .val (.int (own_n p2 p3)), .val (.ref (r (own_k p1))), .val (.int (0 : Int32))] [])) _
        refine XS.iconst X11.here hx rfl (hb hby at_69) ?_
        show Steps p.tables e below (T11.setTop (mkF m 70 #[.val (.int p1), .val (.int p2), .val (.int p3), .val (.int (own_k p1)), .val (.int (own_n p2 p3)), .val (.ref (r (own_k p1))), .val (.int (0 : Int32))] [(.int (1 : Int32))])) _
        refine XS.goto X11.here hx rfl (pc0 := 70) (pc' := 74) rfl (hb hby at_70) (by decide) (by decide) ?_
        show Steps p.tables e below (T11.setTop (mkF m 74 #[.val (.int p1), .val (.int p2), .val (.int p3), .val (.int (own_k p1)), .val (.int (own_n p2 p3)), .val (.ref (r (own_k p1))), .val (.int (0 : Int32))] [(.int (1 : Int32))])) _
        exact retN X11 hx (t := .boolean) Bd.returns (by simp) (hb hby at_74) hr
      · show Q_rm0 Z p1 p2 p3 r h0 n0 _ T11.heap _
        rw [e11]
        exact ⟨rfl, N11⟩
set_option maxRecDepth 65536 in
set_option maxHeartbeats 40000000 in
theorem comes_1 {Post : Tables → Env → Array Value → State → Outcome → State → Prop} (hpost : ∀ tb e args s v u, (limb_1_1.after args s (.returned v) u = true ∧ limb_1_2.after args s (.returned v) u = true ∧ True) → FrameEnd s (.returned v) u (Jvm.fieldLocs frame_1_writes args s ++ Jvm.arrayLocs frame_1_arrays args s ++ Jvm.staticLocs frame_1_statics s) 0 0 → Post tb e args s (.returned v) u) :
    ArmFor flags0 classFile x code maxLocals ret World_1 tables_1 room_1 Calls_1 rest_1 Pre_1 Post := by
  intro l hfl _ _ p e ha hc hk s m args below hf hA hF happ hP
  obtain ⟨hcalls, hrest, hpre⟩ := hP
  obtain ⟨-, -, -, hnamed, -, -, -, hat⟩ := (Spec.applies_iff hf).mp happ
  obtain ⟨hg, hn⟩ := and_e (Cond.before_iff.mp (show (Jvm.Cond.and given_1 narrow_1).before args s = true from hpre))
  obtain ⟨hcount, hga0⟩ := and_e hg
  obtain ⟨hi0, hga1⟩ := and_e hga0
  obtain ⟨hi1, hga2⟩ := and_e hga1
  have hi2 := hga2
  obtain ⟨w0, w1, w2, rfl⟩ : ∃ w0 w1 w2 : Value, args = #[w0, w1, w2] := by
    have hs : args.size = 3 := by simpa [Cond.value, given_1] using hcount
    obtain ⟨L⟩ := args
    match L, hs with
    | [w0, w1, w2], _ => exact ⟨w0, w1, w2, rfl⟩
  have hw := fun d (hd : d ∈ tables_1) => atoms_spec (ws := Jvm.Cond.code x code maxLocals ret :: tables_1) hat d (List.mem_cons_of_mem _ hd)
  obtain ⟨i0, ei0⟩ := is_v hi0
  obtain rfl : w0 = (.int i0) := Option.some.inj ei0
  obtain ⟨i1, ei1⟩ := is_v hi1
  obtain rfl : w1 = (.int i1) := Option.some.inj ei1
  obtain ⟨i2, ei2⟩ := is_v hi2
  obtain rfl : w2 = (.int i2) := Option.some.inj ei2
  obtain ⟨hx_CONCAT, hn_0⟩ := and_e hn
  obtain ⟨hx_LANG, hn_1⟩ := and_e hn_0
  obtain ⟨ho_CONCAT, hn_2⟩ := and_e hn_1
  obtain ⟨ho_LANG, hn_3⟩ := and_e hn_2
  obtain ⟨hx_STARTS_WITH, hn_4⟩ := and_e hn_3
  obtain ⟨ho_STARTS_WITH, hn_5⟩ := and_e hn_4
  obtain ⟨hx_STRING_LENGTH, hn_6⟩ := and_e hn_5
  obtain ⟨ho_STRING_LENGTH, hn_7⟩ := and_e hn_6
  obtain ⟨hx_NORMALIZE_SPACE, hn_8⟩ := and_e hn_7
  obtain ⟨ho_NORMALIZE_SPACE, hn_9⟩ := and_e hn_8
  obtain ⟨hx_CONTAINS, hn_10⟩ := and_e hn_9
  obtain ⟨ho_CONTAINS, hn_11⟩ := and_e hn_10
  obtain ⟨hx_AVAIL, hn_12⟩ := and_e hn_11
  obtain ⟨ho_AVAIL, hn_13⟩ := and_e hn_12
  obtain ⟨hx_TRANSLATE, hn_14⟩ := and_e hn_13
  obtain ⟨ho_TRANSLATE, hn_15⟩ := and_e hn_14
  obtain ⟨hx_SUBSTRING_BEFORE, hn_16⟩ := and_e hn_15
  obtain ⟨ho_SUBSTRING_BEFORE, hn_17⟩ := and_e hn_16
  obtain ⟨hx_UPPERCASE, hn_18⟩ := and_e hn_17
  obtain ⟨ho_UPPERCASE, hn_19⟩ := and_e hn_18
  obtain ⟨hx_GE, hn_20⟩ := and_e hn_19
  obtain ⟨ho_GE, hn_21⟩ := and_e hn_20
  obtain ⟨hx_LE, hn_22⟩ := and_e hn_21
  obtain ⟨ho_LE, hn_23⟩ := and_e hn_22
  obtain ⟨hx_SOUNDSLIKE, hn_24⟩ := and_e hn_23
  obtain ⟨ho_SOUNDSLIKE, hn_25⟩ := and_e hn_24
  obtain ⟨hx_NOT, hn_26⟩ := and_e hn_25
  obtain ⟨ho_NOT, hn_27⟩ := and_e hn_26
  obtain ⟨hx_LOWERCASE, hn_28⟩ := and_e hn_27
  obtain ⟨ho_LOWERCASE, hn_29⟩ := and_e hn_28
  obtain ⟨hx_SUBSTRING, hn_30⟩ := and_e hn_29
  obtain ⟨ho_SUBSTRING, hn_31⟩ := and_e hn_30
  obtain ⟨hx_STRIPACCENTS, hn_32⟩ := and_e hn_31
  obtain ⟨ho_STRIPACCENTS, hn_33⟩ := and_e hn_32
  obtain ⟨hx_SUBSTRING_AFTER, hn_34⟩ := and_e hn_33
  have ho_SUBSTRING_AFTER := hn_34
  obtain ⟨c_CONCAT, ev_CONCAT⟩ := exa_v hx_CONCAT
  have of_CONCAT := own_fldI ev_CONCAT ho_CONCAT
  have xa_CONCAT := Exa.start ev_CONCAT hx_CONCAT
  have st_CONCAT := Sta.start ev_CONCAT (Or.inr ⟨hw _ (List.mem_of_getElem? (i := 6) rfl), hw _ (List.mem_of_getElem? (i := 7) rfl)⟩)
  obtain ⟨c_STARTS_WITH, ev_STARTS_WITH⟩ := exa_v hx_STARTS_WITH
  have of_STARTS_WITH := own_fldI ev_STARTS_WITH ho_STARTS_WITH
  have xa_STARTS_WITH := Exa.start ev_STARTS_WITH hx_STARTS_WITH
  have st_STARTS_WITH := Sta.start ev_STARTS_WITH (Or.inr ⟨hw _ (List.mem_of_getElem? (i := 6) rfl), hw _ (List.mem_of_getElem? (i := 16) rfl)⟩)
  obtain ⟨c_CONTAINS, ev_CONTAINS⟩ := exa_v hx_CONTAINS
  have of_CONTAINS := own_fldI ev_CONTAINS ho_CONTAINS
  have xa_CONTAINS := Exa.start ev_CONTAINS hx_CONTAINS
  have st_CONTAINS := Sta.start ev_CONTAINS (Or.inr ⟨hw _ (List.mem_of_getElem? (i := 6) rfl), hw _ (List.mem_of_getElem? (i := 22) rfl)⟩)
  obtain ⟨c_SUBSTRING_BEFORE, ev_SUBSTRING_BEFORE⟩ := exa_v hx_SUBSTRING_BEFORE
  have of_SUBSTRING_BEFORE := own_fldI ev_SUBSTRING_BEFORE ho_SUBSTRING_BEFORE
  have xa_SUBSTRING_BEFORE := Exa.start ev_SUBSTRING_BEFORE hx_SUBSTRING_BEFORE
  have st_SUBSTRING_BEFORE := Sta.start ev_SUBSTRING_BEFORE (Or.inr ⟨hw _ (List.mem_of_getElem? (i := 6) rfl), hw _ (List.mem_of_getElem? (i := 30) rfl)⟩)
  obtain ⟨c_SUBSTRING_AFTER, ev_SUBSTRING_AFTER⟩ := exa_v hx_SUBSTRING_AFTER
  have of_SUBSTRING_AFTER := own_fldI ev_SUBSTRING_AFTER ho_SUBSTRING_AFTER
  have xa_SUBSTRING_AFTER := Exa.start ev_SUBSTRING_AFTER hx_SUBSTRING_AFTER
  have st_SUBSTRING_AFTER := Sta.start ev_SUBSTRING_AFTER (Or.inr ⟨hw _ (List.mem_of_getElem? (i := 6) rfl), hw _ (List.mem_of_getElem? (i := 49) rfl)⟩)
  obtain ⟨c_SUBSTRING, ev_SUBSTRING⟩ := exa_v hx_SUBSTRING
  have of_SUBSTRING := own_fldI ev_SUBSTRING ho_SUBSTRING
  have xa_SUBSTRING := Exa.start ev_SUBSTRING hx_SUBSTRING
  have st_SUBSTRING := Sta.start ev_SUBSTRING (Or.inr ⟨hw _ (List.mem_of_getElem? (i := 6) rfl), hw _ (List.mem_of_getElem? (i := 45) rfl)⟩)
  obtain ⟨c_STRING_LENGTH, ev_STRING_LENGTH⟩ := exa_v hx_STRING_LENGTH
  have of_STRING_LENGTH := own_fldI ev_STRING_LENGTH ho_STRING_LENGTH
  have xa_STRING_LENGTH := Exa.start ev_STRING_LENGTH hx_STRING_LENGTH
  have st_STRING_LENGTH := Sta.start ev_STRING_LENGTH (Or.inr ⟨hw _ (List.mem_of_getElem? (i := 6) rfl), hw _ (List.mem_of_getElem? (i := 18) rfl)⟩)
  obtain ⟨c_NORMALIZE_SPACE, ev_NORMALIZE_SPACE⟩ := exa_v hx_NORMALIZE_SPACE
  have of_NORMALIZE_SPACE := own_fldI ev_NORMALIZE_SPACE ho_NORMALIZE_SPACE
  have xa_NORMALIZE_SPACE := Exa.start ev_NORMALIZE_SPACE hx_NORMALIZE_SPACE
  have st_NORMALIZE_SPACE := Sta.start ev_NORMALIZE_SPACE (Or.inr ⟨hw _ (List.mem_of_getElem? (i := 6) rfl), hw _ (List.mem_of_getElem? (i := 20) rfl)⟩)
  obtain ⟨c_TRANSLATE, ev_TRANSLATE⟩ := exa_v hx_TRANSLATE
  have of_TRANSLATE := own_fldI ev_TRANSLATE ho_TRANSLATE
  have xa_TRANSLATE := Exa.start ev_TRANSLATE hx_TRANSLATE
  have st_TRANSLATE := Sta.start ev_TRANSLATE (Or.inr ⟨hw _ (List.mem_of_getElem? (i := 6) rfl), hw _ (List.mem_of_getElem? (i := 26) rfl)⟩)
  obtain ⟨c_NOT, ev_NOT⟩ := exa_v hx_NOT
  have of_NOT := own_fldI ev_NOT ho_NOT
  have xa_NOT := Exa.start ev_NOT hx_NOT
  have st_NOT := Sta.start ev_NOT (Or.inr ⟨hw _ (List.mem_of_getElem? (i := 6) rfl), hw _ (List.mem_of_getElem? (i := 41) rfl)⟩)
  obtain ⟨c_LANG, ev_LANG⟩ := exa_v hx_LANG
  have of_LANG := own_fldI ev_LANG ho_LANG
  have xa_LANG := Exa.start ev_LANG hx_LANG
  have st_LANG := Sta.start ev_LANG (Or.inr ⟨hw _ (List.mem_of_getElem? (i := 6) rfl), hw _ (List.mem_of_getElem? (i := 14) rfl)⟩)
  obtain ⟨c_LE, ev_LE⟩ := exa_v hx_LE
  have of_LE := own_fldI ev_LE ho_LE
  have xa_LE := Exa.start ev_LE hx_LE
  have st_LE := Sta.start ev_LE (Or.inr ⟨hw _ (List.mem_of_getElem? (i := 6) rfl), hw _ (List.mem_of_getElem? (i := 37) rfl)⟩)
  obtain ⟨c_GE, ev_GE⟩ := exa_v hx_GE
  have of_GE := own_fldI ev_GE ho_GE
  have xa_GE := Exa.start ev_GE hx_GE
  have st_GE := Sta.start ev_GE (Or.inr ⟨hw _ (List.mem_of_getElem? (i := 6) rfl), hw _ (List.mem_of_getElem? (i := 35) rfl)⟩)
  obtain ⟨c_SOUNDSLIKE, ev_SOUNDSLIKE⟩ := exa_v hx_SOUNDSLIKE
  have of_SOUNDSLIKE := own_fldI ev_SOUNDSLIKE ho_SOUNDSLIKE
  have xa_SOUNDSLIKE := Exa.start ev_SOUNDSLIKE hx_SOUNDSLIKE
  have st_SOUNDSLIKE := Sta.start ev_SOUNDSLIKE (Or.inr ⟨hw _ (List.mem_of_getElem? (i := 6) rfl), hw _ (List.mem_of_getElem? (i := 39) rfl)⟩)
  obtain ⟨c_STRIPACCENTS, ev_STRIPACCENTS⟩ := exa_v hx_STRIPACCENTS
  have of_STRIPACCENTS := own_fldI ev_STRIPACCENTS ho_STRIPACCENTS
  have xa_STRIPACCENTS := Exa.start ev_STRIPACCENTS hx_STRIPACCENTS
  have st_STRIPACCENTS := Sta.start ev_STRIPACCENTS (Or.inr ⟨hw _ (List.mem_of_getElem? (i := 6) rfl), hw _ (List.mem_of_getElem? (i := 47) rfl)⟩)
  obtain ⟨c_LOWERCASE, ev_LOWERCASE⟩ := exa_v hx_LOWERCASE
  have of_LOWERCASE := own_fldI ev_LOWERCASE ho_LOWERCASE
  have xa_LOWERCASE := Exa.start ev_LOWERCASE hx_LOWERCASE
  have st_LOWERCASE := Sta.start ev_LOWERCASE (Or.inr ⟨hw _ (List.mem_of_getElem? (i := 6) rfl), hw _ (List.mem_of_getElem? (i := 43) rfl)⟩)
  obtain ⟨c_UPPERCASE, ev_UPPERCASE⟩ := exa_v hx_UPPERCASE
  have of_UPPERCASE := own_fldI ev_UPPERCASE ho_UPPERCASE
  have xa_UPPERCASE := Exa.start ev_UPPERCASE hx_UPPERCASE
  have st_UPPERCASE := Sta.start ev_UPPERCASE (Or.inr ⟨hw _ (List.mem_of_getElem? (i := 6) rfl), hw _ (List.mem_of_getElem? (i := 33) rfl)⟩)
  obtain ⟨c_AVAIL, ev_AVAIL⟩ := exa_v hx_AVAIL
  have of_AVAIL := own_fldI ev_AVAIL ho_AVAIL
  have xa_AVAIL := Exa.start ev_AVAIL hx_AVAIL
  have st_AVAIL := Sta.start ev_AVAIL (Or.inr ⟨hw _ (List.mem_of_getElem? (i := 6) rfl), hw _ (List.mem_of_getElem? (i := 24) rfl)⟩)
  have hO : ∀ i : Int32, own_rng i → s.fieldOf? (own_r c_CONCAT c_STARTS_WITH c_CONTAINS c_SUBSTRING_BEFORE c_SUBSTRING_AFTER c_SUBSTRING c_STRING_LENGTH c_NORMALIZE_SPACE c_TRANSLATE c_NOT c_LANG c_LE c_GE c_SOUNDSLIKE c_STRIPACCENTS c_LOWERCASE c_UPPERCASE c_AVAIL i) "java/lang/Enum" "ordinal" "I" = some (.int i) := by
    intro i hi
    rcases own_cases hi with rfl | rfl | rfl | rfl | rfl | rfl | rfl | rfl | rfl | rfl | rfl | rfl | rfl | rfl | rfl | rfl | rfl | rfl
    · exact of_CONCAT
    · exact of_STARTS_WITH
    · exact of_CONTAINS
    · exact of_SUBSTRING_BEFORE
    · exact of_SUBSTRING_AFTER
    · exact of_SUBSTRING
    · exact of_STRING_LENGTH
    · exact of_NORMALIZE_SPACE
    · exact of_TRANSLATE
    · exact of_NOT
    · exact of_LANG
    · exact of_LE
    · exact of_GE
    · exact of_SOUNDSLIKE
    · exact of_STRIPACCENTS
    · exact of_LOWERCASE
    · exact of_UPPERCASE
    · exact of_AVAIL
  have hEX : ∀ i : Int32, own_rng i → Exa s s.heap (own_r c_CONCAT c_STARTS_WITH c_CONTAINS c_SUBSTRING_BEFORE c_SUBSTRING_AFTER c_SUBSTRING c_STRING_LENGTH c_NORMALIZE_SPACE c_TRANSLATE c_NOT c_LANG c_LE c_GE c_SOUNDSLIKE c_STRIPACCENTS c_LOWERCASE c_UPPERCASE c_AVAIL i) "com/example/principal/principal/contactbook/select/SelectFunction" := by
    intro i hi
    rcases own_cases hi with rfl | rfl | rfl | rfl | rfl | rfl | rfl | rfl | rfl | rfl | rfl | rfl | rfl | rfl | rfl | rfl | rfl | rfl
    · exact xa_CONCAT
    · exact xa_STARTS_WITH
    · exact xa_CONTAINS
    · exact xa_SUBSTRING_BEFORE
    · exact xa_SUBSTRING_AFTER
    · exact xa_SUBSTRING
    · exact xa_STRING_LENGTH
    · exact xa_NORMALIZE_SPACE
    · exact xa_TRANSLATE
    · exact xa_NOT
    · exact xa_LANG
    · exact xa_LE
    · exact xa_GE
    · exact xa_SOUNDSLIKE
    · exact xa_STRIPACCENTS
    · exact xa_LOWERCASE
    · exact xa_UPPERCASE
    · exact xa_AVAIL
  have hJ : ∀ i j : Int32, own_rng i → own_rng j → own_r c_CONCAT c_STARTS_WITH c_CONTAINS c_SUBSTRING_BEFORE c_SUBSTRING_AFTER c_SUBSTRING c_STRING_LENGTH c_NORMALIZE_SPACE c_TRANSLATE c_NOT c_LANG c_LE c_GE c_SOUNDSLIKE c_STRIPACCENTS c_LOWERCASE c_UPPERCASE c_AVAIL i = own_r c_CONCAT c_STARTS_WITH c_CONTAINS c_SUBSTRING_BEFORE c_SUBSTRING_AFTER c_SUBSTRING c_STRING_LENGTH c_NORMALIZE_SPACE c_TRANSLATE c_NOT c_LANG c_LE c_GE c_SOUNDSLIKE c_STRIPACCENTS c_LOWERCASE c_UPPERCASE c_AVAIL j → i = j := by
    intro i j hi hj q
    have a1 := hO i hi
    rw [q, hO j hj] at a1
    exact (Value.int.inj (Option.some.inj a1)).symm
  obtain ⟨n, o, h1, h2, h3, _, L, rfl, ⟨rfl, N⟩, hq⟩ := rm0 l s _ hw tables_1 i0 i1 i2 (own_r c_CONCAT c_STARTS_WITH c_CONTAINS c_SUBSTRING_BEFORE c_SUBSTRING_AFTER c_SUBSTRING c_STRING_LENGTH c_NORMALIZE_SPACE c_TRANSLATE c_NOT c_LANG c_LE c_GE c_SOUNDSLIKE c_STRIPACCENTS c_LOWERCASE c_UPPERCASE c_AVAIL) s.heap s.heap.size (Nat.le_refl _) st_CONCAT st_STARTS_WITH st_CONTAINS st_SUBSTRING_BEFORE st_SUBSTRING_AFTER st_SUBSTRING st_STRING_LENGTH st_NORMALIZE_SPACE st_TRANSLATE st_NOT st_LANG st_LE st_GE st_SOUNDSLIKE st_STRIPACCENTS st_LOWERCASE st_UPPERCASE st_AVAIL hJ hEX p e ha hc hk s m _ below hf ((Spec.applies_iff_loose hf).mp happ).1 ⟨rfl, State.Warmed39.refl s, rfl⟩ trivial
  refine ⟨n, _, h1, h2, h3, hpost _ _ _ _ _ _ ⟨Cond.after_iff.mpr rfl, Cond.after_iff.mpr (eq_i res_at (Term.int_eval (1)) rfl), trivial⟩ ⟨hq.1, hq.2.1, (hq.2.2.sift fun y hy => Or.inr (N y hy)).mono (by decide) (by decide)⟩⟩
theorem main_1_1 : Claimed_1_1 := comes_1 fun _ _ _ _ _ _ h hF => ⟨h.1, hF⟩
theorem main_1_2 : Claimed_1_2 := comes_1 fun _ _ _ _ _ _ h hF => ⟨h.2.1, hF⟩
end Jvm.Pilot.@@N@@
namespace Jvm.Pilot.@@N@@
open Jvm Jvm.ClassFile Sem Op Lib Jvm.Free Jvm.Stand Jvm.Pilot.@@N@@.Jvm.D
/-! MADE BY PROGRAM (witnessworld.py) out of the Statement's table words and the real class files: 12 classes; the members and pool entries that the words name. The judged class is class 1, her method 1. -/
namespace start1
open Jvm.ClassFile
def u (s : String) : CpInfo := .utf8 (stringToUtf16 s)
/-- a pool by its gaps: so many unusable entries, then the entry; so many at the end -/
def gap : Nat → List CpInfo → List CpInfo
  | 0, r => r
  | n + 1, r => .unusable :: gap n r
def poolList (es : List (Nat × CpInfo)) (last : Nat) : List CpInfo := es.foldr (fun e r => gap e.1 (e.2 :: r)) (gap last [])
def pool (es : List (Nat × CpInfo)) (last : Nat) : Array CpInfo := ⟨poolList es last⟩
def fileOf (pool : Array CpInfo) (this : Nat) (attrs : Array Attribute := #[]) (ms : Array MethodInfo := #[]) (fl : Nat := 33) (sup : Nat := 0) (ifs : Array Nat := #[]) (fds : Array FieldInfo := #[]) : ClassFile where
  minorVersion := 0
  majorVersion := 65
  constantPool := pool
  accessFlags := fl
  thisClass := this
  superClass := sup
  interfaces := ifs
  fields := fds
  methods := ms
  attributes := attrs
def plain (name : String) (sup : Option ClassId) : Class where
  name := name
  kind := .ordinary
  loader := none
  accessFlags := 33
  super := sup
  interfaces := #[]
  cf := none
  fields := #[]
  methods := #[]
  instanceTypes := #[]
  staticTypes := #[]
  resolved := #[]
  callSites := []
  init := .initialized
  statics := none
  mirror := none

def pool0 : Array CpInfo := pool [(5, u "<init>"), (0, u "()V"), (1, .class_ 10), (1, u "java/lang/Object")] 113

def k0m0 : Method := { name := "<init>", desc := "()V", sig := { parameters := [], returnType := none }, accessFlags := 1, code := none }
/-- java/lang/Object -/
def k0 : Class := { plain "java/lang/Object" none with
  accessFlags := 33
  interfaces := #[]
  cf := some (fileOf pool0 8 #[] #[{ accessFlags := 1, nameIndex := 5, descriptorIndex := 6, attributes := #[] }] 33 0 #[] #[])
  fields := #[]
  methods := #[k0m0]
  instanceTypes := #[]
  staticTypes := #[]
  resolved := Array.replicate 124 none
  statics := none }

def pool1 : Array CpInfo := pool [(2, .class_ 4), (1, u "java/lang/Object"), (0, u "<init>"), (0, u "()V"), (0, .integer 2147483647), (0, .methodref 9 10), (0, .class_ 11), (0, .nameAndType 12 13), (0, u "com/example/principal/principal/contactbook/select/SelectFunctionReadsContextPinLaw"), (0, u "pick"), (0, u "(I)Lcom/example/principal/principal/contactbook/select/SelectFunction;"), (0, .methodref 15 16), (0, .class_ 17), (0, .nameAndType 18 19), (0, u "com/example/principal/principal/contactbook/select/SelectFunction"), (0, u "readsContext"), (0, u "(I)Z"), (0, .fieldref 15 21), (0, .nameAndType 22 23), (0, u "CONCAT"), (0, u "Lcom/example/principal/principal/contactbook/select/SelectFunction;"), (0, .fieldref 15 25), (0, .nameAndType 26 23), (0, u "STARTS_WITH"), (0, .fieldref 15 28), (0, .nameAndType 29 23), (0, u "CONTAINS"), (0, .fieldref 15 31), (0, .nameAndType 32 23), (0, u "SUBSTRING_BEFORE"), (0, .fieldref 15 34), (0, .nameAndType 35 23), (0, u "SUBSTRING_AFTER"), (0, .fieldref 15 37), (0, .nameAndType 38 23), (0, u "SUBSTRING"), (0, .fieldref 15 40), (0, .nameAndType 41 23), (0, u "STRING_LENGTH"), (0, .fieldref 15 43), (0, .nameAndType 44 23), (0, u "NORMALIZE_SPACE"), (0, .fieldref 15 46), (0, .nameAndType 47 23), (0, u "TRANSLATE"), (0, .fieldref 15 49), (0, .nameAndType 50 23), (0, u "NOT"), (0, .fieldref 15 52), (0, .nameAndType 53 23), (0, u "LANG"), (0, .fieldref 15 55), (0, .nameAndType 56 23), (0, u "LE"), (0, .fieldref 15 58), (0, .nameAndType 59 23), (0, u "GE"), (0, .fieldref 15 61), (0, .nameAndType 62 23), (0, u "SOUNDSLIKE"), (0, .fieldref 15 64), (0, .nameAndType 65 23), (0, u "STRIPACCENTS"), (0, .fieldref 15 67), (0, .nameAndType 68 23), (0, u "LOWERCASE"), (0, .fieldref 15 70), (0, .nameAndType 71 23), (0, u "UPPERCASE"), (0, .fieldref 15 73), (0, .nameAndType 74 23), (0, u "AVAIL"), (2, u "law"), (0, u "(III)Z")] 3

def k1m0 : Method := { name := "<init>", desc := "()V", sig := { parameters := [], returnType := none }, accessFlags := 2, code := none }
def k1c1 : Code := { maxStack := 2, maxLocals := 7, code := code, exceptionTable := #[], attributes := #[] }
def k1m1 : Method := { name := "law", desc := "(III)Z", sig := { parameters := [.int, .int, .int], returnType := some .boolean }, accessFlags := 9, code := some k1c1 }
def k1c2 : Code := { maxStack := 2, maxLocals := 1, code := method_3_code, exceptionTable := #[], attributes := #[] }
def k1m2 : Method := { name := "pick", desc := "(I)Lcom/example/principal/principal/contactbook/select/SelectFunction;", sig := { parameters := [.int], returnType := some (.object "com/example/principal/principal/contactbook/select/SelectFunction") }, accessFlags := 10, code := some k1c2 }
/-- com/example/principal/principal/contactbook/select/SelectFunctionReadsContextPinLaw -/
def k1 : Class := { plain "com/example/principal/principal/contactbook/select/SelectFunctionReadsContextPinLaw" (some 0) with
  accessFlags := 49
  interfaces := #[]
  cf := some (fileOf pool1 9 #[] #[{ accessFlags := 2, nameIndex := 5, descriptorIndex := 6, attributes := #[] }, { accessFlags := 9, nameIndex := 77, descriptorIndex := 78, attributes := #[] }, { accessFlags := 10, nameIndex := 12, descriptorIndex := 13, attributes := #[] }] 49 2 #[] #[])
  fields := #[]
  methods := #[k1m0, k1m1, k1m2]
  instanceTypes := #[]
  staticTypes := #[]
  resolved := Array.replicate 82 none
  statics := none }

def pool2 : Array CpInfo := pool [(1, .class_ 2), (0, u "java/lang/constant/Constable"), (0, .class_ 4), (0, u "java/lang/Object")] 6

/-- java/lang/constant/Constable -/
def k2 : Class := { plain "java/lang/constant/Constable" (some 0) with
  accessFlags := 1537
  interfaces := #[]
  cf := some (fileOf pool2 1 #[] #[] 1537 3 #[] #[])
  fields := #[]
  methods := #[]
  instanceTypes := #[]
  staticTypes := #[]
  resolved := Array.replicate 11 none
  statics := none }

def pool3 : Array CpInfo := pool [(1, .class_ 2), (0, u "java/lang/Comparable"), (0, .class_ 4), (0, u "java/lang/Object")] 7

/-- java/lang/Comparable -/
def k3 : Class := { plain "java/lang/Comparable" (some 0) with
  accessFlags := 1537
  interfaces := #[]
  cf := some (fileOf pool3 1 #[] #[] 1537 3 #[] #[])
  fields := #[]
  methods := #[]
  instanceTypes := #[]
  staticTypes := #[]
  resolved := Array.replicate 12 none
  statics := none }

def pool4 : Array CpInfo := pool [(1, .class_ 2), (0, u "java/io/Serializable"), (0, .class_ 4), (0, u "java/lang/Object")] 2

/-- java/io/Serializable -/
def k4 : Class := { plain "java/io/Serializable" (some 0) with
  accessFlags := 1537
  interfaces := #[]
  cf := some (fileOf pool4 1 #[] #[] 1537 3 #[] #[])
  fields := #[]
  methods := #[]
  instanceTypes := #[]
  staticTypes := #[]
  resolved := Array.replicate 7 none
  statics := none }

def pool5 : Array CpInfo := pool [(2, .class_ 4), (1, u "java/lang/Enum"), (0, u "name"), (0, u "Ljava/lang/String;"), (2, u "ordinal"), (0, u "I"), (1, .class_ 14), (1, u "java/lang/Object"), (4, u "hash"), (86, .class_ 108), (1, u "java/lang/Enum$EnumDesc"), (2, .class_ 112), (0, u "java/lang/constant/Constable"), (0, .class_ 114), (0, u "java/lang/Comparable"), (0, .class_ 116), (0, u "java/io/Serializable")] 87

/-- java/lang/Enum -/
def k5 : Class := { plain "java/lang/Enum" (some 0) with
  accessFlags := 1057
  interfaces := #[2, 3, 4]
  cf := some (fileOf pool5 2 #[.nestMembers #[106]] #[] 1057 12 #[111, 113, 115] #[{ accessFlags := 18, nameIndex := 5, descriptorIndex := 6, attributes := #[] }, { accessFlags := 18, nameIndex := 9, descriptorIndex := 10, attributes := #[] }, { accessFlags := 2, nameIndex := 19, descriptorIndex := 10, attributes := #[] }])
  fields := #[{ name := "name", type := (.object "java/lang/String"), accessFlags := 18, slot := 0, constantValue := 0 }, { name := "ordinal", type := .int, accessFlags := 18, slot := 1, constantValue := 0 }, { name := "hash", type := .int, accessFlags := 2, slot := 2, constantValue := 0 }]
  methods := #[]
  instanceTypes := #[(.object "java/lang/String"), .int, .int]
  staticTypes := #[]
  resolved := Array.replicate 204 none
  statics := none }

def pool6 : Array CpInfo := pool [(1, .class_ 2), (0, u "com/example/principal/principal/contactbook/select/SelectFunction"), (2, u "CONCAT"), (0, u "Lcom/example/principal/principal/contactbook/select/SelectFunction;"), (2, u "STARTS_WITH"), (2, u "CONTAINS"), (2, u "SUBSTRING_BEFORE"), (2, u "SUBSTRING_AFTER"), (2, u "SUBSTRING"), (0, .fieldref 1 23), (0, .nameAndType 24 6), (0, u "STRING_LENGTH"), (0, .fieldref 1 26), (0, .nameAndType 27 6), (0, u "NORMALIZE_SPACE"), (2, u "TRANSLATE"), (2, u "NOT"), (0, .fieldref 1 35), (0, .nameAndType 36 6), (0, u "LANG"), (2, u "LE"), (2, u "GE"), (2, u "SOUNDSLIKE"), (2, u "STRIPACCENTS"), (2, u "LOWERCASE"), (2, u "UPPERCASE"), (2, u "AVAIL"), (2, u "$VALUES"), (0, u "[Lcom/example/principal/principal/contactbook/select/SelectFunction;"), (6, .class_ 70), (1, u "java/lang/Enum"), (13, u "expandedName"), (0, u "Ljavax/xml/namespace/QName;"), (2, u "minArguments"), (0, u "I"), (2, u "maxArguments"), (2, u "implementation"), (0, u "Lcom/example/principal/principal/contactbook/select/SelectFunction$Implementation;"), (9, u "BY_NAME"), (0, u "Ljava/util/Map;"), (7, .class_ 117), (1, u "com/example/principal/principal/contactbook/select/SelectFunction$Implementation"), (447, u "STRIPPED"), (0, u "Ljava/lang/String;"), (1, u "ENTRY_BYTES"), (0, u "J"), (10, u "readsContext"), (0, u "(I)Z")] 142

def k6c0 : Code := { maxStack := 2, maxLocals := 2, code := prog_41_method_7_code, exceptionTable := #[], attributes := #[] }
def k6m0 : Method := { name := "readsContext", desc := "(I)Z", sig := { parameters := [.int], returnType := some .boolean }, accessFlags := 0, code := some k6c0 }
/-- com/example/principal/principal/contactbook/select/SelectFunction -/
def k6 : Class := { plain "com/example/principal/principal/contactbook/select/SelectFunction" (some 5) with
  accessFlags := 16432
  interfaces := #[]
  cf := some (fileOf pool6 1 #[.nestMembers #[115]] #[{ accessFlags := 0, nameIndex := 580, descriptorIndex := 581, attributes := #[] }] 16432 68 #[] #[{ accessFlags := 16409, nameIndex := 5, descriptorIndex := 6, attributes := #[] }, { accessFlags := 16409, nameIndex := 9, descriptorIndex := 6, attributes := #[] }, { accessFlags := 16409, nameIndex := 12, descriptorIndex := 6, attributes := #[] }, { accessFlags := 16409, nameIndex := 15, descriptorIndex := 6, attributes := #[] }, { accessFlags := 16409, nameIndex := 18, descriptorIndex := 6, attributes := #[] }, { accessFlags := 16409, nameIndex := 21, descriptorIndex := 6, attributes := #[] }, { accessFlags := 16409, nameIndex := 24, descriptorIndex := 6, attributes := #[] }, { accessFlags := 16409, nameIndex := 27, descriptorIndex := 6, attributes := #[] }, { accessFlags := 16409, nameIndex := 30, descriptorIndex := 6, attributes := #[] }, { accessFlags := 16409, nameIndex := 33, descriptorIndex := 6, attributes := #[] }, { accessFlags := 16409, nameIndex := 36, descriptorIndex := 6, attributes := #[] }, { accessFlags := 16409, nameIndex := 39, descriptorIndex := 6, attributes := #[] }, { accessFlags := 16409, nameIndex := 42, descriptorIndex := 6, attributes := #[] }, { accessFlags := 16409, nameIndex := 45, descriptorIndex := 6, attributes := #[] }, { accessFlags := 16409, nameIndex := 48, descriptorIndex := 6, attributes := #[] }, { accessFlags := 16409, nameIndex := 51, descriptorIndex := 6, attributes := #[] }, { accessFlags := 16409, nameIndex := 54, descriptorIndex := 6, attributes := #[] }, { accessFlags := 16409, nameIndex := 57, descriptorIndex := 6, attributes := #[] }, { accessFlags := 26, nameIndex := 106, descriptorIndex := 107, attributes := #[] }, { accessFlags := 26, nameIndex := 565, descriptorIndex := 566, attributes := #[] }, { accessFlags := 26, nameIndex := 568, descriptorIndex := 569, attributes := #[] }, { accessFlags := 18, nameIndex := 84, descriptorIndex := 85, attributes := #[] }, { accessFlags := 18, nameIndex := 88, descriptorIndex := 89, attributes := #[] }, { accessFlags := 18, nameIndex := 92, descriptorIndex := 89, attributes := #[] }, { accessFlags := 18, nameIndex := 95, descriptorIndex := 96, attributes := #[] }, { accessFlags := 4122, nameIndex := 60, descriptorIndex := 61, attributes := #[] }])
  fields := #[{ name := "CONCAT", type := (.object "com/example/principal/principal/contactbook/select/SelectFunction"), accessFlags := 16409, slot := 0, constantValue := 0 }, { name := "STARTS_WITH", type := (.object "com/example/principal/principal/contactbook/select/SelectFunction"), accessFlags := 16409, slot := 1, constantValue := 0 }, { name := "CONTAINS", type := (.object "com/example/principal/principal/contactbook/select/SelectFunction"), accessFlags := 16409, slot := 2, constantValue := 0 }, { name := "SUBSTRING_BEFORE", type := (.object "com/example/principal/principal/contactbook/select/SelectFunction"), accessFlags := 16409, slot := 3, constantValue := 0 }, { name := "SUBSTRING_AFTER", type := (.object "com/example/principal/principal/contactbook/select/SelectFunction"), accessFlags := 16409, slot := 4, constantValue := 0 }, { name := "SUBSTRING", type := (.object "com/example/principal/principal/contactbook/select/SelectFunction"), accessFlags := 16409, slot := 5, constantValue := 0 }, { name := "STRING_LENGTH", type := (.object "com/example/principal/principal/contactbook/select/SelectFunction"), accessFlags := 16409, slot := 6, constantValue := 0 }, { name := "NORMALIZE_SPACE", type := (.object "com/example/principal/principal/contactbook/select/SelectFunction"), accessFlags := 16409, slot := 7, constantValue := 0 }, { name := "TRANSLATE", type := (.object "com/example/principal/principal/contactbook/select/SelectFunction"), accessFlags := 16409, slot := 8, constantValue := 0 }, { name := "NOT", type := (.object "com/example/principal/principal/contactbook/select/SelectFunction"), accessFlags := 16409, slot := 9, constantValue := 0 }, { name := "LANG", type := (.object "com/example/principal/principal/contactbook/select/SelectFunction"), accessFlags := 16409, slot := 10, constantValue := 0 }, { name := "LE", type := (.object "com/example/principal/principal/contactbook/select/SelectFunction"), accessFlags := 16409, slot := 11, constantValue := 0 }, { name := "GE", type := (.object "com/example/principal/principal/contactbook/select/SelectFunction"), accessFlags := 16409, slot := 12, constantValue := 0 }, { name := "SOUNDSLIKE", type := (.object "com/example/principal/principal/contactbook/select/SelectFunction"), accessFlags := 16409, slot := 13, constantValue := 0 }, { name := "STRIPACCENTS", type := (.object "com/example/principal/principal/contactbook/select/SelectFunction"), accessFlags := 16409, slot := 14, constantValue := 0 }, { name := "LOWERCASE", type := (.object "com/example/principal/principal/contactbook/select/SelectFunction"), accessFlags := 16409, slot := 15, constantValue := 0 }, { name := "UPPERCASE", type := (.object "com/example/principal/principal/contactbook/select/SelectFunction"), accessFlags := 16409, slot := 16, constantValue := 0 }, { name := "AVAIL", type := (.object "com/example/principal/principal/contactbook/select/SelectFunction"), accessFlags := 16409, slot := 17, constantValue := 0 }, { name := "BY_NAME", type := (.object "java/util/Map"), accessFlags := 26, slot := 18, constantValue := 0 }, { name := "STRIPPED", type := (.object "java/lang/String"), accessFlags := 26, slot := 19, constantValue := 0 }, { name := "ENTRY_BYTES", type := .long, accessFlags := 26, slot := 20, constantValue := 0 }, { name := "expandedName", type := (.object "javax/xml/namespace/QName"), accessFlags := 18, slot := 3, constantValue := 0 }, { name := "minArguments", type := .int, accessFlags := 18, slot := 4, constantValue := 0 }, { name := "maxArguments", type := .int, accessFlags := 18, slot := 5, constantValue := 0 }, { name := "implementation", type := (.object "com/example/principal/principal/contactbook/select/SelectFunction$Implementation"), accessFlags := 18, slot := 6, constantValue := 0 }, { name := "$VALUES", type := (.array (.object "com/example/principal/principal/contactbook/select/SelectFunction")), accessFlags := 4122, slot := 21, constantValue := 0 }]
  methods := #[k6m0]
  instanceTypes := #[(.object "java/lang/String"), .int, .int, (.object "javax/xml/namespace/QName"), .int, .int, (.object "com/example/principal/principal/contactbook/select/SelectFunction$Implementation")]
  staticTypes := #[(.object "com/example/principal/principal/contactbook/select/SelectFunction"), (.object "com/example/principal/principal/contactbook/select/SelectFunction"), (.object "com/example/principal/principal/contactbook/select/SelectFunction"), (.object "com/example/principal/principal/contactbook/select/SelectFunction"), (.object "com/example/principal/principal/contactbook/select/SelectFunction"), (.object "com/example/principal/principal/contactbook/select/SelectFunction"), (.object "com/example/principal/principal/contactbook/select/SelectFunction"), (.object "com/example/principal/principal/contactbook/select/SelectFunction"), (.object "com/example/principal/principal/contactbook/select/SelectFunction"), (.object "com/example/principal/principal/contactbook/select/SelectFunction"), (.object "com/example/principal/principal/contactbook/select/SelectFunction"), (.object "com/example/principal/principal/contactbook/select/SelectFunction"), (.object "com/example/principal/principal/contactbook/select/SelectFunction"), (.object "com/example/principal/principal/contactbook/select/SelectFunction"), (.object "com/example/principal/principal/contactbook/select/SelectFunction"), (.object "com/example/principal/principal/contactbook/select/SelectFunction"), (.object "com/example/principal/principal/contactbook/select/SelectFunction"), (.object "com/example/principal/principal/contactbook/select/SelectFunction"), (.object "java/util/Map"), (.object "java/lang/String"), .long, (.array (.object "com/example/principal/principal/contactbook/select/SelectFunction"))]
  resolved := Array.replicate 724 none
  statics := some 0 }

def pool7 : Array CpInfo := pool [(1, u "java/lang/Cloneable"), (0, .class_ 1), (0, u "java/lang/Object"), (0, .class_ 3)] 3

/-- java/lang/Cloneable -/
def k7 : Class := { plain "java/lang/Cloneable" (some 0) with
  accessFlags := 1537
  interfaces := #[]
  cf := some (fileOf pool7 2 #[] #[] 1537 4 #[] #[])
  fields := #[]
  methods := #[]
  instanceTypes := #[]
  staticTypes := #[]
  resolved := Array.replicate 8 none
  statics := none }

/-- the primitive byte -/
def k8 : Class := { plain "byte" none with kind := .primitive 'B', accessFlags := 0x411 }
/-- [B -/
def k9 : Class := { plain "[B" (some 0) with kind := .array 8 .byte, interfaces := #[7, 4], accessFlags := 1041 }

/-- the primitive int -/
def k10 : Class := { plain "int" none with kind := .primitive 'I', accessFlags := 0x411 }
/-- [I -/
def k11 : Class := { plain "[I" (some 0) with kind := .array 10 .int, interfaces := #[7, 4], accessFlags := 1041 }

def heap : Heap := #[{ cls := 6, slots := #[.ref 1, .ref 2, .ref 3, .ref 4, .ref 5, .ref 6, .ref 7, .ref 8, .ref 9, .ref 10, .ref 11, .ref 12, .ref 13, .ref 14, .ref 15, .ref 16, .ref 17, .ref 18, .null, .null, .long 0, .null], vm := .statics 6 },
  { cls := 6, slots := #[.null, .int 0, .int 0, .null, .int 0, .int 0, .null], vm := .none },
  { cls := 6, slots := #[.null, .int 1, .int 0, .null, .int 0, .int 0, .null], vm := .none },
  { cls := 6, slots := #[.null, .int 2, .int 0, .null, .int 0, .int 0, .null], vm := .none },
  { cls := 6, slots := #[.null, .int 3, .int 0, .null, .int 0, .int 0, .null], vm := .none },
  { cls := 6, slots := #[.null, .int 4, .int 0, .null, .int 0, .int 0, .null], vm := .none },
  { cls := 6, slots := #[.null, .int 5, .int 0, .null, .int 0, .int 0, .null], vm := .none },
  { cls := 6, slots := #[.null, .int 6, .int 0, .null, .int 0, .int 0, .null], vm := .none },
  { cls := 6, slots := #[.null, .int 7, .int 0, .null, .int 0, .int 0, .null], vm := .none },
  { cls := 6, slots := #[.null, .int 8, .int 0, .null, .int 0, .int 0, .null], vm := .none },
  { cls := 6, slots := #[.null, .int 9, .int 0, .null, .int 0, .int 0, .null], vm := .none },
  { cls := 6, slots := #[.null, .int 10, .int 0, .null, .int 0, .int 0, .null], vm := .none },
  { cls := 6, slots := #[.null, .int 11, .int 0, .null, .int 0, .int 0, .null], vm := .none },
  { cls := 6, slots := #[.null, .int 12, .int 0, .null, .int 0, .int 0, .null], vm := .none },
  { cls := 6, slots := #[.null, .int 13, .int 0, .null, .int 0, .int 0, .null], vm := .none },
  { cls := 6, slots := #[.null, .int 14, .int 0, .null, .int 0, .int 0, .null], vm := .none },
  { cls := 6, slots := #[.null, .int 15, .int 0, .null, .int 0, .int 0, .null], vm := .none },
  { cls := 6, slots := #[.null, .int 16, .int 0, .null, .int 0, .int 0, .null], vm := .none },
  { cls := 6, slots := #[.null, .int 17, .int 0, .null, .int 0, .int 0, .null], vm := .none }]
def classes : Array Class := #[k0, k1, k2, k3, k4, k5, k6, k7, k8, k9, k10, k11]
def interned : List (Array UInt16 × Addr) := []
def slotsUsed : Nat := 148
def theMethod : MethodId := ⟨1, 1⟩
def args0 : Array Value := #[.int 5, .int 7, .int 0]
def aboutOver (below : List Frame) : State where
  vm := { classes := classes, interned := interned.toArray }
  heap := heap
  slotsUsed := slotsUsed
  threads := #[{ frames := .invoking theMethod args0 :: below }]
def below0 : List Frame := [.native { method := ⟨0, 0⟩, args := #[] }]
def about1 : State := aboutOver below0
def p0 : Program := .bare "" "" ""
def e0 : Env := launch0.env 0 0 0
theorem w_frames : about1.frames = Frame.invoking theMethod args0 :: below0 := rfl
set_option maxRecDepth 65536 in
theorem w_args : argsFit about1.vm theMethod args0 = true := by decide +kernel
set_option maxRecDepth 65536 in
theorem w_heap : heapFits about1 = true := by decide +kernel
set_option maxRecDepth 65536 in
theorem w_runnable : about1.curStatus? = some .runnable := by decide +kernel
set_option maxRecDepth 65536 in
theorem w_alone : about1.alone = true := by decide +kernel
set_option maxRecDepth 65536 in
theorem w_named : about1.methodNamed? x = some theMethod := by decide +kernel
set_option maxRecDepth 65536 in
theorem w_hears : about1.hears theMethod below0 = true := by decide +kernel
set_option maxRecDepth 65536 in
theorem w_ripe : about1.ripe theMethod args0 below0 = true := by decide +kernel
theorem w_running : about1.status = .running := rfl
set_option maxRecDepth 65536 in
theorem w_room : about1.hasRoom e0.platform room_1 = true :=
  launch0.hasRoom_least _ room_1 (by decide +kernel) (by decide +kernel) (by decide +kernel) (by decide +kernel) (by decide +kernel) (by decide +kernel)
theorem allAtoms_all (ts : List Jvm.Cond) (a : Array Jvm.Value) (st : Jvm.State) : (allAtoms ts).before a st = ts.all (fun c => c.before a st) := by
  induction ts with
  | nil => rfl
  | cons c t ih =>
    show (Jvm.Cond.and c (allAtoms t)).before a st = _
    rw [Jvm.Cond.before_and, ih, List.all_cons]
def words1 : List Jvm.Cond := Jvm.Cond.code x code maxLocals ret :: tables_1
/-- a 'code' word, met by the world's own term for the bytes: nothing is compared byte by byte -/
theorem code_word {y : MethodName} {bytes : ByteArray} {mx : Nat} {rt : Option FieldType} {a : Array Value} {s : State} {m : MethodId} {meth : Method} {c : Code} (h1 : s.methodNamed? y = some m) (h2 : s.vm.method? m = some meth) (h3 : meth.code = some c) (h4 : c.code = bytes)
    (h5 : (c.maxLocals == mx && c.exceptionTable.isEmpty && decide (c.maxStack ≤ mostOperands) && decide (meth.sig.returnType = rt) && !meth.locks && decide (parseMethodDescriptor y.desc = some meth.sig)) = true) : (Jvm.Cond.code y bytes mx rt).before a s = true := by
  simp only [Bool.and_eq_true, beq_iff_eq, Bool.not_eq_true', decide_eq_true_eq] at h5
  obtain ⟨⟨⟨⟨⟨g1, g2⟩, g3⟩, g4⟩, g5⟩, g6⟩ := h5
  simp [Cond.before, Cond.holds, Cond.value, h1, h2, h3, h4, g1, g2, g3, g4, g5, g6]
def isCode : Jvm.Cond → Bool
  | .code _ _ _ _ => true
  | _ => false
theorem all_split {L : List Jvm.Cond} {P : Jvm.Cond → Bool} (h1 : L.all (fun c => isCode c || P c) = true) (h2 : ∀ c ∈ L.filter isCode, P c = true) : L.all P = true := by
  refine List.all_eq_true.mpr fun c hc => ?_
  have h := List.all_eq_true.mp h1 c hc
  rcases Bool.eq_false_or_eq_true (isCode c) with hi | hi
  · exact h2 c (List.mem_filter.mpr ⟨hc, hi⟩)
  · simpa [hi] using h
set_option maxRecDepth 65536 in
theorem w_c0 : (Jvm.Cond.code x code maxLocals ret).before args0 about1 = true := code_word (m := ⟨1, 1⟩) (meth := k1m1) (c := k1c1) (by decide +kernel) rfl rfl rfl (by decide +kernel)
set_option maxRecDepth 65536 in
theorem w_c1 : (Jvm.Cond.code ({ cls := "com/example/principal/principal/contactbook/select/SelectFunctionReadsContextPinLaw", name := "pick", desc := "(I)Lcom/example/principal/principal/contactbook/select/SelectFunction;" } : Jvm.MethodName) method_3_code (1 : Nat) (Option.some (Jvm.ClassFile.FieldType.object "com/example/principal/principal/contactbook/select/SelectFunction"))).before args0 about1 = true := code_word (m := ⟨1, 2⟩) (meth := k1m2) (c := k1c2) (by decide +kernel) rfl rfl rfl (by decide +kernel)
set_option maxRecDepth 65536 in
theorem w_c2 : (Jvm.Cond.code ({ cls := "com/example/principal/principal/contactbook/select/SelectFunction", name := "readsContext", desc := "(I)Z" } : Jvm.MethodName) prog_41_method_7_code (2 : Nat) (Option.some Jvm.ClassFile.FieldType.boolean)).before args0 about1 = true := code_word (m := ⟨6, 0⟩) (meth := k6m0) (c := k6c0) (by decide +kernel) rfl rfl rfl (by decide +kernel)
def codes1 : List Jvm.Cond := [Jvm.Cond.code x code maxLocals ret, Jvm.Cond.code ({ cls := "com/example/principal/principal/contactbook/select/SelectFunctionReadsContextPinLaw", name := "pick", desc := "(I)Lcom/example/principal/principal/contactbook/select/SelectFunction;" } : Jvm.MethodName) method_3_code (1 : Nat) (Option.some (Jvm.ClassFile.FieldType.object "com/example/principal/principal/contactbook/select/SelectFunction")), Jvm.Cond.code ({ cls := "com/example/principal/principal/contactbook/select/SelectFunction", name := "readsContext", desc := "(I)Z" } : Jvm.MethodName) prog_41_method_7_code (2 : Nat) (Option.some Jvm.ClassFile.FieldType.boolean)]
set_option maxRecDepth 65536 in
theorem codes_eq : words1.filter isCode = codes1 := rfl
theorem w_codes : ∀ c ∈ words1.filter isCode, c.before args0 about1 = true := by
  rw [codes_eq]
  intro c hc
  simp only [codes1, List.mem_cons, List.not_mem_nil, or_false] at hc
  rcases hc with rfl | rfl | rfl
  · exact w_c0
  · exact w_c1
  · exact w_c2
set_option maxRecDepth 65536 in
theorem w_t1 : (words1.take 24).all (fun c => isCode c || c.before args0 about1) = true := by decide +kernel
set_option maxRecDepth 65536 in
theorem w_t2 : ((words1.drop 24).take 24).all (fun c => isCode c || c.before args0 about1) = true := by decide +kernel
set_option maxRecDepth 65536 in
theorem w_t3 : ((words1.drop 24).drop 24).all (fun c => isCode c || c.before args0 about1) = true := by decide +kernel
theorem w_tables : (allAtoms (Jvm.Cond.code x code maxLocals ret :: tables_1)).before args0 about1 = true := by
  rw [allAtoms_all]
  show words1.all (fun c => c.before args0 about1) = true
  refine all_split ?_ w_codes
  rw [← List.take_append_drop 24 words1, List.all_append, w_t1, ← List.take_append_drop 24 (words1.drop 24), List.all_append, w_t2, w_t3]
  rfl
set_option maxRecDepth 65536 in
theorem w_case : (Jvm.Cond.and given_1 narrow_1).before args0 about1 = true := by decide +kernel
theorem w_applies : (headSpec (Jvm.Cond.code x code maxLocals ret :: tables_1) room_1).applies x e0.platform about1 = true :=
  (Spec.applies_iff w_frames).mpr ⟨w_running, w_runnable, w_alone, w_named, w_hears, w_ripe, w_room, w_tables⟩
theorem atStart : AtStart classFile x code maxLocals ret World_1 tables_1 room_1 Calls_1 rest_1 Pre_1 launch0 p0 e0 about1 theMethod args0 below0 :=
  ⟨lists_1, trivial, launch0.admits_env _ _ _, launch0.least_env, fairChoices_fair.cas, fairChoices_fair.clock, w_frames, w_args, w_heap, w_applies, trivial, trivial, w_case⟩
end start1
theorem witness_1 : WitnessClaimed_1 := ⟨start1.p0, start1.e0, start1.about1, start1.theMethod, start1.args0, start1.below0, start1.atStart⟩
end Jvm.Pilot.@@N@@
