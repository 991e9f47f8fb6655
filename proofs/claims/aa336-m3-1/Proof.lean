import JvmDerived
import JvmDerived.Pilot.@@N@@Statement
import JvmDerived.Pilot.@@N@@Code
set_option linter.unusedVariables false
set_option linter.unusedSimpArgs false
namespace Jvm.RoadKit
open Sem ClassFile Op Lib Jvm.Stand Jvm.Free Jvm.LawKit
section New
variable {p : Program} {l : Launch} {e : Env} {R : Room} {s : State} {m : MethodId} {args : Array Value} {below : List Frame} {meth : Method} {c : Code} {T : State} {locs : List Loc} {cells slots : Nat}
theorem retI (X : Stand p l e R s m args below meth c T locs cells slots) (hx : p.tables.exec = Jvm.exec) {pc : Nat} {Ls : Array Slot} {z : Int32} {rest : List Value} (hret : meth.sig.returnType = some .int) (hd : decode c.code pc = .ok (.ireturn, 1)) {fs : List Frame}
    (hl : ∀ (f : JFrame) (acts : List Action), f.method = m → f.locked = none → f.entered = [] → (doReturn e (T.setTop f) acts (some (.int z))).1 = T.setFrames fs) : Steps p.tables e below (T.setTop (mkF m pc Ls (.int z :: rest))) (T.setFrames fs) := by
  have hm' : T.vm.method? m = some meth := X.method'
  have hn : narrow .int (.int z) = .int z := rfl
  show Steps p.tables e below (T.setTop { method := m, pc := pc, locals := Ls, stack := _ :: rest, locked := none }) _
  jvm_step X.here [X.here.top, hx, hd, hm', hret, hn]
  first | (intro acts; rw [hl _ acts rfl rfl rfl]) | rw [hl _ _ rfl rfl rfl]
  exact Steps.refl _
theorem retD (X : Stand p l e R s m args below meth c T locs cells slots) (hx : p.tables.exec = Jvm.exec) {pc : Nat} {Ls : Array Slot} {z : UInt64} {rest : List Value} (hret : meth.sig.returnType = some .double) (hd : decode c.code pc = .ok (.dreturn, 1)) {fs : List Frame}
    (hl : ∀ (f : JFrame) (acts : List Action), f.method = m → f.locked = none → f.entered = [] → (doReturn e (T.setTop f) acts (some (.double z))).1 = T.setFrames fs) : Steps p.tables e below (T.setTop (mkF m pc Ls (.double z :: rest))) (T.setFrames fs) := by
  have hm' : T.vm.method? m = some meth := X.method'
  have hn : narrow .double (.double z) = .double z := rfl
  show Steps p.tables e below (T.setTop { method := m, pc := pc, locals := Ls, stack := _ :: rest, locked := none }) _
  jvm_step X.here [X.here.top, hx, hd, hm', hret, hn]
  first | (intro acts; rw [hl _ acts rfl rfl rfl]) | rw [hl _ _ rfl rfl rfl]
  exact Steps.refl _
end New
end Jvm.RoadKit
namespace Jvm.Pilot.@@N@@
open Jvm Jvm.ClassFile Sem Op Lib Jvm.Free Jvm.Stand Jvm.LawKit Jvm.RoadKit Bundle Jvm.Pilot.@@N@@.Jvm.D
def own_max (x y : Int64) : Int64 := if lcmpW x y < (0 : Int32) then y else x
def own_fit (f r z : Int64) : Int32 := if lcmpW f (z - r) < (0 : Int32) then (0 : Int32) else (1 : Int32)
theorem own_mask (x : Int64) : 0 ≤ (x &&& (9223372036854775807 : Int64)).toInt ∧ (x &&& (9223372036854775807 : Int64)).toInt < 9223372036854775808 := by
  have h := c_maskL x 9223372036854775807 63 (by decide) (by decide)
  have e : ((2 ^ 63 : Nat) : Int) = 9223372036854775808 := by decide
  rw [e] at h
  omega
theorem own_s2 (x : Int64) : 0 ≤ (own_max (0 : Int64) x).toInt := by
  have e0 : (0 : Int64).toInt = 0 := by decide
  unfold own_max
  by_cases h : lcmpW (0 : Int64) x < (0 : Int32)
  · rw [if_pos h]; rw [lw_lt, Int64.lt_iff_toInt_lt] at h; omega
  · rw [if_neg h]; omega
theorem own_off (z : Int32) : 0 ≤ (z &&& (7 : Int32)).toInt ∧ (z &&& (7 : Int32)).toInt ≤ 7 := by
  have hm := c_mask z 7 3 (by decide) (by decide)
  have e : ((2 ^ 3 : Nat) : Int) = 8 := by decide
  rw [e] at hm
  omega
theorem own_s4 (base : Int64) (o : Int32) (ho : 0 ≤ o.toInt ∧ o.toInt ≤ 7) (hb : 0 ≤ base.toInt) (hk : (3 : Int32) < o) (h : ¬ (0 : Int32) < lcmpW base ((9223372036854775807 : Int64) - (o - (3 : Int32)).toInt64)) : 0 ≤ (base + (o - (3 : Int32)).toInt64).toInt := by
  rw [Int32.lt_iff_toInt_lt] at hk
  have e3 : (3 : Int32).toInt = 3 := by decide
  have eM : (9223372036854775807 : Int64).toInt = 9223372036854775807 := by decide
  have a1 := c_isub o 3
  have a2 := rng32 (o - 3)
  have a3 := c_i2l (o - 3)
  rw [lw_gt, Int64.lt_iff_toInt_lt] at h
  have a4 := c_lsub (9223372036854775807 : Int64) (o - 3).toInt64
  have a5 := rng64 ((9223372036854775807 : Int64) - (o - 3).toInt64)
  have a6 := c_ladd base (o - 3).toInt64
  have a7 := rng64 (base + (o - 3).toInt64)
  omega
theorem own_nn {b : Int64} (h : ¬ lcmpW b (0 : Int64) < (0 : Int32)) : 0 ≤ b.toInt := by
  rw [lw_lt, Int64.lt_iff_toInt_lt] at h
  have e0 : (0 : Int64).toInt = 0 := by decide
  omega
theorem own_f1 (f r z : Int64) (hf : 0 ≤ f.toInt) (hr : 0 ≤ r.toInt) (hz : 0 ≤ z.toInt) (h : ¬ lcmpW f z < (0 : Int32)) : own_fit f r z = 1 := by
  rw [lw_lt, Int64.lt_iff_toInt_lt] at h
  have a1 := c_lsub z r
  have a2 := rng64 (z - r)
  have a3 := rng64 z
  have a4 := rng64 r
  rw [own_fit, if_neg]
  rw [lw_lt, Int64.lt_iff_toInt_lt]
  omega
theorem own_f2 (f r z : Int64) (hf : 0 ≤ f.toInt) (hr : 0 ≤ r.toInt) (hz : 0 ≤ z.toInt) (h : ¬ (0 : Int32) < lcmpW (z - f) r) : own_fit f r z = 1 := by
  rw [lw_gt, Int64.lt_iff_toInt_lt] at h
  have a1 := c_lsub z r
  have a2 := rng64 (z - r)
  have a3 := rng64 z
  have a4 := rng64 r
  have a5 := c_lsub z f
  have a6 := rng64 (z - f)
  have a7 := rng64 f
  rw [own_fit, if_neg]
  rw [lw_lt, Int64.lt_iff_toInt_lt]
  omega
theorem own_f3 (f r z : Int64) (hf : 0 ≤ f.toInt) (hr : 0 ≤ r.toInt) (hz : 0 ≤ z.toInt) (h : (0 : Int32) < lcmpW (z - f) r) : own_fit f r z = 0 := by
  rw [lw_gt, Int64.lt_iff_toInt_lt] at h
  have a1 := c_lsub z r
  have a2 := rng64 (z - r)
  have a3 := rng64 z
  have a4 := rng64 r
  have a5 := c_lsub z f
  have a6 := rng64 (z - f)
  have a7 := rng64 f
  rw [own_fit, if_pos]
  rw [lw_lt, Int64.lt_iff_toInt_lt]
  omega
theorem ef_rm_max (m : MethodId) (x0 : Int64) (x1 : Int64) : entryFrame m #[(.long x0), (.long x1)] 4 = mkF m 0 #[.val (.long x0), .second, .val (.long x1), .second] [] := by first | (simp [entryFrame, mkF, argsToLocals, Value.category]; done) | rfl
def Q_rm_max (Z : State) (q1 : Int64) (q2 : Int64) (h0 : Heap) (n0 : Nat) (v : Option Value) (h : Heap) (L : List Loc) : Prop := v = some (.long (own_max q1 q2)) ∧ Fr n0 L ∧ h = h0
theorem d9_0 : decode jdk_29_method_66_code 0 = .ok (.lload_n 0, 1) := by decide +kernel
theorem d9_1 : decode jdk_29_method_66_code 1 = .ok (.lload_n 2, 1) := by decide +kernel
theorem d9_2 : decode jdk_29_method_66_code 2 = .ok (.lcmp, 1) := by decide +kernel
theorem d9_3 : decode jdk_29_method_66_code 3 = .ok (.ifCond .lt 7, 3) := by decide +kernel
theorem d9_10 : decode jdk_29_method_66_code 10 = .ok (.lload_n 2, 1) := by decide +kernel
theorem d9_11 : decode jdk_29_method_66_code 11 = .ok (.lreturn, 1) := by decide +kernel
theorem d9_6 : decode jdk_29_method_66_code 6 = .ok (.lload_n 0, 1) := by decide +kernel
theorem d9_7 : decode jdk_29_method_66_code 7 = .ok (.goto 4, 3) := by decide +kernel
set_option maxRecDepth 65536 in
set_option maxHeartbeats 40000000 in
theorem rm_max (l : Launch) (Z : State) (a0 : Array Value) (hw : ∀ d ∈ tables_1, d.before a0 Z = true) (ws : List Jvm.Cond) (q1 : Int64) (q2 : Int64) (h0 : Heap) (n0 : Nat) (Z0 : n0 ≤ h0.size)  :
    MetFree l (⟨"java/lang/Math", "max", "(JJ)J"⟩ : MethodName) (head1 (Jvm.Cond.code (⟨"java/lang/Math", "max", "(JJ)J"⟩ : MethodName) jdk_29_method_66_code 4 (some .long) :: ws) ({ frames := 0, cells := 0, slots := 0, locals := 0 } : Room)) (fun a U => a = #[(.long q1), (.long q2)] ∧ Z.Warmed39 U.vm ∧ U.heap = h0) (fun _ _ _ _ _ => True) (fun _ U o U' => ∃ v L, o = .returned v ∧ Q_rm_max Z q1 q2 h0 n0 v U'.heap L ∧ FrameEnd U o U' L ({ frames := 0, cells := 0, slots := 0, locals := 0 } : Room).cells ({ frames := 0, cells := 0, slots := 0, locals := 0 } : Room).slots) := by
  refine MetFree.of_bodySF (Jvm.Free.JP.mathPlain rfl (by decide +kernel)) hisR ?_
  intro p e s m args below meth c s₁ Bd hml0 hP hK
  obtain ⟨rfl, hZ, hh⟩ := hP
  have hx := Bd.exec
  have hby := Bd.bytes
  have hml : c.maxLocals = 4 := hml0
  have hown : s.vm.findClass "java/lang/Math" = some m.cls := findClass_of_methodNamed Bd.named
  have hnm := (name_of_methodNamed Bd.named Bd.method).1
  have X0 : Stand p l e ({ frames := 0, cells := 0, slots := 0, locals := 0 } : Room) s m #[(.long q1), (.long q2)] below meth c s₁ [] 0 0 := Stand.of_body Bd
  have e0 : s₁.heap = h0 := by rw [← hh, Bd.state]; rfl
  have N0 := Fr.nil n0
  have pre0 : ∀ t, Steps p.tables e below (s₁.setTop (mkF m 0 #[.val (.long q1), .second, .val (.long q2), .second] [])) t → Steps p.tables e below (s₁.setTop (entryFrame m #[(.long q1), (.long q2)] 4)) t := fun t kt => castTop (ef_rm_max m q1 q2) kt
  have pre_1 : ∀ t, Steps p.tables e below (s₁.setTop (mkF m 3 #[.val (.long q1), .second, .val (.long q2), .second] [(.int (lcmpW q1 q2))])) t → Steps p.tables e below (s₁.setTop (entryFrame m #[(.long q1), (.long q2)] 4)) t := by
    intro t kt
    refine pre0 _ ?_
    show Steps p.tables e below (s₁.setTop (mkF m 0 #[.val (.long q1), .second, .val (.long q2), .second] [])) _
    refine XS.lloadN X0.here hx rfl (hb hby d9_0) rfl ?_
    show Steps p.tables e below (s₁.setTop (mkF m 1 #[.val (.long q1), .second, .val (.long q2), .second] [(.long q1)])) _
    refine XS.lloadN X0.here hx rfl (hb hby d9_1) rfl ?_
    show Steps p.tables e below (s₁.setTop (mkF m 2 #[.val (.long q1), .second, .val (.long q2), .second] [(.long q2), (.long q1)])) _
    refine XS.lcmp X0.here hx rfl (hb hby d9_2) rfl ?_
    exact kt
  by_cases hc3 : (lcmpW q1 q2) < (0 : Int32)
  · obtain ⟨fs, hr, hrun, hended, hW, hsame⟩ := X0.leave (v := some (.long q2)) (fun h => by rw [Bd.returns] at h; cases h) (hlocks := Bd.notSynchronized)
    refine ⟨_, _, pre_1 _ ?_, hrun, hended, _, _, rfl, ?_, ⟨_, rfl⟩, hW, hsame.mono (by decide) (by decide)⟩
    · show Steps p.tables e below (s₁.setTop (mkF m 3 #[.val (.long q1), .second, .val (.long q2), .second] [(.int (lcmpW q1 q2))])) _
      refine XS.ifYes X0.here hx rfl (pc0 := 3) (pc' := 10) rfl (hb hby d9_3) rfl ((if0 _ _).trans (tlt hc3).1) (by decide) (by decide) ?_
      show Steps p.tables e below (s₁.setTop (mkF m 10 #[.val (.long q1), .second, .val (.long q2), .second] [])) _
      refine XS.lloadN X0.here hx rfl (hb hby d9_10) rfl ?_
      show Steps p.tables e below (s₁.setTop (mkF m 11 #[.val (.long q1), .second, .val (.long q2), .second] [(.long q2)])) _
      exact X0.lreturnOut hx Bd.returns (hb hby d9_11) hr
    · show Q_rm_max Z q1 q2 h0 n0 _ s₁.heap _
      rw [e0]
      exact ⟨by rw [own_max, if_pos hc3], N0, rfl⟩
  · obtain ⟨fs, hr, hrun, hended, hW, hsame⟩ := X0.leave (v := some (.long q1)) (fun h => by rw [Bd.returns] at h; cases h) (hlocks := Bd.notSynchronized)
    refine ⟨_, _, pre_1 _ ?_, hrun, hended, _, _, rfl, ?_, ⟨_, rfl⟩, hW, hsame.mono (by decide) (by decide)⟩
    · show Steps p.tables e below (s₁.setTop (mkF m 3 #[.val (.long q1), .second, .val (.long q2), .second] [(.int (lcmpW q1 q2))])) _
      refine XS.ifNo X0.here hx rfl (hb hby d9_3) rfl ((if0 _ _).trans (flt hc3).1) ?_
      show Steps p.tables e below (s₁.setTop (mkF m 6 #[.val (.long q1), .second, .val (.long q2), .second] [])) _
      refine XS.lloadN X0.here hx rfl (hb hby d9_6) rfl ?_
      show Steps p.tables e below (s₁.setTop (mkF m 7 #[.val (.long q1), .second, .val (.long q2), .second] [(.long q1)])) _
      refine XS.goto X0.here hx rfl (pc0 := 7) (pc' := 11) rfl (hb hby d9_7) (by decide) (by decide) ?_
      show Steps p.tables e below (s₁.setTop (mkF m 11 #[.val (.long q1), .second, .val (.long q2), .second] [(.long q1)])) _
      exact X0.lreturnOut hx Bd.returns (hb hby d9_11) hr
    · show Q_rm_max Z q1 q2 h0 n0 _ s₁.heap _
      rw [e0]
      exact ⟨by rw [own_max, if_neg hc3], N0, rfl⟩
theorem pn_1 : plainName "com/example/poolwright/poolwright/PoolReportFitsPinLaw" = true := by first | (simp [plainName, overriddenIn]; done) | decide +kernel
theorem ef_rm_ps (m : MethodId) (x0 : Int64) (x1 : Int64) (x2 : Int64) (x3 : Int32) : entryFrame m #[(.long x0), (.long x1), (.long x2), (.int x3)] 12 = mkF m 0 #[.val (.long x0), .second, .val (.long x1), .second, .val (.long x2), .second, .val (.int x3), .unset, .unset, .unset, .unset, .unset] [] := by first | (simp [entryFrame, mkF, argsToLocals, Value.category]; done) | rfl
def Q_rm_ps (Z : State) (q1 : Int64) (q2 : Int64) (q3 : Int64) (p4 : Int32) (h0 : Heap) (n0 : Nat) (v : Option Value) (h : Heap) (L : List Loc) : Prop := ∃ sz : Int64, v = some (.long sz) ∧ Fr n0 L ∧ h = h0 ∧ 0 ≤ sz.toInt
theorem d1_0 : decode method_2_code 0 = .ok (.iload 6, 2) := by decide +kernel
theorem d1_2 : decode method_2_code 2 = .ok (.iconst 1, 1) := by decide +kernel
theorem d1_3 : decode method_2_code 3 = .ok (.iand, 1) := by decide +kernel
theorem d1_4 : decode method_2_code 4 = .ok (.ifCond .ne 10, 3) := by decide +kernel
theorem d1_7 : decode method_2_code 7 = .ok (.lload 4, 2) := by decide +kernel
theorem d1_9 : decode method_2_code 9 = .ok (.ldc2_w 9, 3) := by decide +kernel
theorem d1_12 : decode method_2_code 12 = .ok (.land, 1) := by decide +kernel
theorem d1_13 : decode method_2_code 13 = .ok (.lreturn, 1) := by decide +kernel
theorem d1_14 : decode method_2_code 14 = .ok (.lload_n 0, 1) := by decide +kernel
theorem d1_15 : decode method_2_code 15 = .ok (.lload_n 2, 1) := by decide +kernel
theorem d1_16 : decode method_2_code 16 = .ok (.ladd, 1) := by decide +kernel
theorem d1_17 : decode method_2_code 17 = .ok (.lstore 7, 2) := by decide +kernel
theorem d1_19 : decode method_2_code 19 = .ok (.lload 7, 2) := by decide +kernel
theorem d1_21 : decode method_2_code 21 = .ok (.lconst 0, 1) := by decide +kernel
theorem d1_22 : decode method_2_code 22 = .ok (.lcmp, 1) := by decide +kernel
theorem d1_23 : decode method_2_code 23 = .ok (.ifCond .ge 8, 3) := by decide +kernel
theorem d1_26 : decode method_2_code 26 = .ok (.ldc2_w 9, 3) := by decide +kernel
theorem d1_29 : decode method_2_code 29 = .ok (.lstore 7, 2) := by decide +kernel
theorem d1_31 : decode method_2_code 31 = .ok (.iload 6, 2) := by decide +kernel
theorem d1_33 : decode method_2_code 33 = .ok (.iconst 1, 1) := by decide +kernel
theorem d1_34 : decode method_2_code 34 = .ok (.ishr, 1) := by decide +kernel
theorem d1_35 : decode method_2_code 35 = .ok (.bipush 7, 2) := by decide +kernel
theorem d1_37 : decode method_2_code 37 = .ok (.iand, 1) := by decide +kernel
theorem d1_38 : decode method_2_code 38 = .ok (.istore 9, 2) := by decide +kernel
theorem d1_40 : decode method_2_code 40 = .ok (.iload 9, 2) := by decide +kernel
theorem d1_42 : decode method_2_code 42 = .ok (.iconst 3, 1) := by decide +kernel
theorem d1_43 : decode method_2_code 43 = .ok (.if_icmp .gt 14, 3) := by decide +kernel
theorem d1_57 : decode method_2_code 57 = .ok (.iload 9, 2) := by decide +kernel
theorem d1_59 : decode method_2_code 59 = .ok (.iconst 3, 1) := by decide +kernel
theorem d1_60 : decode method_2_code 60 = .ok (.isub, 1) := by decide +kernel
theorem d1_61 : decode method_2_code 61 = .ok (.i2l, 1) := by decide +kernel
theorem d1_62 : decode method_2_code 62 = .ok (.lstore 10, 2) := by decide +kernel
theorem d1_64 : decode method_2_code 64 = .ok (.lload 7, 2) := by decide +kernel
theorem d1_66 : decode method_2_code 66 = .ok (.ldc2_w 9, 3) := by decide +kernel
theorem d1_69 : decode method_2_code 69 = .ok (.lload 10, 2) := by decide +kernel
theorem d1_71 : decode method_2_code 71 = .ok (.lsub, 1) := by decide +kernel
theorem d1_72 : decode method_2_code 72 = .ok (.lcmp, 1) := by decide +kernel
theorem d1_73 : decode method_2_code 73 = .ok (.ifCond .le 7, 3) := by decide +kernel
theorem d1_76 : decode method_2_code 76 = .ok (.ldc2_w 9, 3) := by decide +kernel
theorem d1_79 : decode method_2_code 79 = .ok (.lreturn, 1) := by decide +kernel
theorem d1_80 : decode method_2_code 80 = .ok (.lload 7, 2) := by decide +kernel
theorem d1_82 : decode method_2_code 82 = .ok (.lload 10, 2) := by decide +kernel
theorem d1_84 : decode method_2_code 84 = .ok (.ladd, 1) := by decide +kernel
theorem d1_85 : decode method_2_code 85 = .ok (.lreturn, 1) := by decide +kernel
theorem d1_46 : decode method_2_code 46 = .ok (.lconst 0, 1) := by decide +kernel
theorem d1_47 : decode method_2_code 47 = .ok (.lload 7, 2) := by decide +kernel
theorem d1_49 : decode method_2_code 49 = .ok (.iload 9, 2) := by decide +kernel
theorem d1_51 : decode method_2_code 51 = .ok (.i2l, 1) := by decide +kernel
theorem d1_52 : decode method_2_code 52 = .ok (.lsub, 1) := by decide +kernel
theorem pd__JJ_J_303 : parseMethodDescriptor "(JJ)J" = some ⟨[.long, .long], some .long⟩ := by decide +kernel
theorem d1_53 : decode method_2_code 53 = .ok (.invokestatic 11, 3) := by decide +kernel
theorem d1_56 : decode method_2_code 56 = .ok (.lreturn, 1) := by decide +kernel
set_option maxRecDepth 65536 in
set_option maxHeartbeats 40000000 in
theorem rm_ps (l : Launch) (Z : State) (a0 : Array Value) (hw : ∀ d ∈ tables_1, d.before a0 Z = true) (ws : List Jvm.Cond) (q1 : Int64) (q2 : Int64) (q3 : Int64) (p4 : Int32) (h0 : Heap) (n0 : Nat) (Z0 : n0 ≤ h0.size)  :
    MetFree l (⟨"com/example/poolwright/poolwright/PoolReportFitsPinLaw", "pickSize", "(JJJI)J"⟩ : MethodName) (head1 (Jvm.Cond.code (⟨"com/example/poolwright/poolwright/PoolReportFitsPinLaw", "pickSize", "(JJJI)J"⟩ : MethodName) method_2_code 12 (some .long) :: ws) ({ frames := 1, cells := 0, slots := 0, locals := 15 } : Room)) (fun a U => a = #[(.long q1), (.long q2), (.long q3), (.int p4)] ∧ Z.Warmed39 U.vm ∧ U.heap = h0) (fun _ _ _ _ _ => True) (fun _ U o U' => ∃ v L, o = .returned v ∧ Q_rm_ps Z q1 q2 q3 p4 h0 n0 v U'.heap L ∧ FrameEnd U o U' L ({ frames := 1, cells := 0, slots := 0, locals := 15 } : Room).cells ({ frames := 1, cells := 0, slots := 0, locals := 15 } : Room).slots) := by
  refine MetFree.of_bodySF (plainFor_of_name pn_1) hisR ?_
  intro p e s m args below meth c s₁ Bd hml0 hP hK
  obtain ⟨rfl, hZ, hh⟩ := hP
  have hx := Bd.exec
  have hby := Bd.bytes
  have hml : c.maxLocals = 12 := hml0
  have hown : s.vm.findClass "com/example/poolwright/poolwright/PoolReportFitsPinLaw" = some m.cls := findClass_of_methodNamed Bd.named
  have hnm := (name_of_methodNamed Bd.named Bd.method).1
  have X0 : Stand p l e ({ frames := 1, cells := 0, slots := 0, locals := 15 } : Room) s m #[(.long q1), (.long q2), (.long q3), (.int p4)] below meth c s₁ [] 0 0 := Stand.of_body Bd
  have e0 : s₁.heap = h0 := by rw [← hh, Bd.state]; rfl
  have N0 := Fr.nil n0
  have pre0 : ∀ t, Steps p.tables e below (s₁.setTop (mkF m 0 #[.val (.long q1), .second, .val (.long q2), .second, .val (.long q3), .second, .val (.int p4), .unset, .unset, .unset, .unset, .unset] [])) t → Steps p.tables e below (s₁.setTop (entryFrame m #[(.long q1), (.long q2), (.long q3), (.int p4)] 12)) t := fun t kt => castTop (ef_rm_ps m q1 q2 q3 p4) kt
  have pre_1 : ∀ t, Steps p.tables e below (s₁.setTop (mkF m 4 #[.val (.long q1), .second, .val (.long q2), .second, .val (.long q3), .second, .val (.int p4), .unset, .unset, .unset, .unset, .unset] [(.int (p4 &&& (1 : Int32)))])) t → Steps p.tables e below (s₁.setTop (entryFrame m #[(.long q1), (.long q2), (.long q3), (.int p4)] 12)) t := by
    intro t kt
    refine pre0 _ ?_
    show Steps p.tables e below (s₁.setTop (mkF m 0 #[.val (.long q1), .second, .val (.long q2), .second, .val (.long q3), .second, .val (.int p4), .unset, .unset, .unset, .unset, .unset] [])) _
    refine XS.iload X0.here hx rfl (hb hby d1_0) rfl ?_
    show Steps p.tables e below (s₁.setTop (mkF m 2 #[.val (.long q1), .second, .val (.long q2), .second, .val (.long q3), .second, .val (.int p4), .unset, .unset, .unset, .unset, .unset] [(.int p4)])) _
    refine XS.iconst X0.here hx rfl (hb hby d1_2) ?_
    show Steps p.tables e below (s₁.setTop (mkF m 3 #[.val (.long q1), .second, .val (.long q2), .second, .val (.long q3), .second, .val (.int p4), .unset, .unset, .unset, .unset, .unset] [(.int (1 : Int32)), (.int p4)])) _
    refine XS.iand X0.here hx rfl (hb hby d1_3) rfl ?_
    exact kt
  by_cases hc4 : (p4 &&& (1 : Int32)) = (0 : Int32)
  · obtain ⟨fs, hr, hrun, hended, hW, hsame⟩ := X0.leave (v := some (.long (q3 &&& (9223372036854775807 : Int64)))) (fun h => by rw [Bd.returns] at h; cases h) (hlocks := Bd.notSynchronized)
    refine ⟨_, _, pre_1 _ ?_, hrun, hended, _, _, rfl, ?_, ⟨_, rfl⟩, hW, hsame.mono (by decide) (by decide)⟩
    · show Steps p.tables e below (s₁.setTop (mkF m 4 #[.val (.long q1), .second, .val (.long q2), .second, .val (.long q3), .second, .val (.int p4), .unset, .unset, .unset, .unset, .unset] [(.int (p4 &&& (1 : Int32)))])) _
      refine XS.ifNo X0.here hx rfl (hb hby d1_4) rfl ((if0 _ _).trans (teq hc4).2) ?_
      show Steps p.tables e below (s₁.setTop (mkF m 7 #[.val (.long q1), .second, .val (.long q2), .second, .val (.long q3), .second, .val (.int p4), .unset, .unset, .unset, .unset, .unset] [])) _
      refine XS.lload X0.here hx rfl (hb hby d1_7) rfl ?_
      show Steps p.tables e below (s₁.setTop (mkF m 9 #[.val (.long q1), .second, .val (.long q2), .second, .val (.long q3), .second, .val (.int p4), .unset, .unset, .unset, .unset, .unset] [(.long q3)])) _
      refine X0.ldc2Long hx hown (mvT hZ (hw _ (List.mem_of_getElem? (i := 0) rfl))) (g := (mkF m 9 #[.val (.long q1), .second, .val (.long q2), .second, .val (.long q3), .second, .val (.int p4), .unset, .unset, .unset, .unset, .unset] [(.long q3)])) rfl (hb hby d1_9) _ ?_
      show Steps p.tables e below (s₁.setTop (mkF m 12 #[.val (.long q1), .second, .val (.long q2), .second, .val (.long q3), .second, .val (.int p4), .unset, .unset, .unset, .unset, .unset] [(.long (9223372036854775807 : Int64)), (.long q3)])) _
      refine XS.land X0.here hx rfl (hb hby d1_12) rfl ?_
      show Steps p.tables e below (s₁.setTop (mkF m 13 #[.val (.long q1), .second, .val (.long q2), .second, .val (.long q3), .second, .val (.int p4), .unset, .unset, .unset, .unset, .unset] [(.long (q3 &&& (9223372036854775807 : Int64)))])) _
      exact X0.lreturnOut hx Bd.returns (hb hby d1_13) hr
    · show Q_rm_ps Z q1 q2 q3 p4 h0 n0 _ s₁.heap _
      rw [e0]
      exact ⟨_, rfl, N0, rfl, (own_mask _).1⟩
  · have pre_2 : ∀ t, Steps p.tables e below (s₁.setTop (mkF m 23 #[.val (.long q1), .second, .val (.long q2), .second, .val (.long q3), .second, .val (.int p4), .val (.long (q1 + q2)), .second, .unset, .unset, .unset] [(.int (lcmpW (q1 + q2) (0 : Int64)))])) t → Steps p.tables e below (s₁.setTop (entryFrame m #[(.long q1), (.long q2), (.long q3), (.int p4)] 12)) t := by
      intro t kt
      refine pre_1 _ ?_
      show Steps p.tables e below (s₁.setTop (mkF m 4 #[.val (.long q1), .second, .val (.long q2), .second, .val (.long q3), .second, .val (.int p4), .unset, .unset, .unset, .unset, .unset] [(.int (p4 &&& (1 : Int32)))])) _
      refine XS.ifYes X0.here hx rfl (pc0 := 4) (pc' := 14) rfl (hb hby d1_4) rfl ((if0 _ _).trans (feq hc4).2) (by decide) (by decide) ?_
      show Steps p.tables e below (s₁.setTop (mkF m 14 #[.val (.long q1), .second, .val (.long q2), .second, .val (.long q3), .second, .val (.int p4), .unset, .unset, .unset, .unset, .unset] [])) _
      refine XS.lloadN X0.here hx rfl (hb hby d1_14) rfl ?_
      show Steps p.tables e below (s₁.setTop (mkF m 15 #[.val (.long q1), .second, .val (.long q2), .second, .val (.long q3), .second, .val (.int p4), .unset, .unset, .unset, .unset, .unset] [(.long q1)])) _
      refine XS.lloadN X0.here hx rfl (hb hby d1_15) rfl ?_
      show Steps p.tables e below (s₁.setTop (mkF m 16 #[.val (.long q1), .second, .val (.long q2), .second, .val (.long q3), .second, .val (.int p4), .unset, .unset, .unset, .unset, .unset] [(.long q2), (.long q1)])) _
      refine XS.ladd X0.here hx rfl (hb hby d1_16) rfl ?_
      show Steps p.tables e below (s₁.setTop (mkF m 17 #[.val (.long q1), .second, .val (.long q2), .second, .val (.long q3), .second, .val (.int p4), .unset, .unset, .unset, .unset, .unset] [(.long (q1 + q2))])) _
      refine XS.lstore X0.here hx rfl (hb hby d1_17) rfl (l' := #[.val (.long q1), .second, .val (.long q2), .second, .val (.long q3), .second, .val (.int p4), .val (.long (q1 + q2)), .second, .unset, .unset, .unset]) rfl ?_
      show Steps p.tables e below (s₁.setTop (mkF m 19 #[.val (.long q1), .second, .val (.long q2), .second, .val (.long q3), .second, .val (.int p4), .val (.long (q1 + q2)), .second, .unset, .unset, .unset] [])) _
      refine XS.lload X0.here hx rfl (hb hby d1_19) rfl ?_
      show Steps p.tables e below (s₁.setTop (mkF m 21 #[.val (.long q1), .second, .val (.long q2), .second, .val (.long q3), .second, .val (.int p4), .val (.long (q1 + q2)), .second, .unset, .unset, .unset] [(.long (q1 + q2))])) _
      refine XS.lconst X0.here hx rfl (hb hby d1_21) ?_
      show Steps p.tables e below (s₁.setTop (mkF m 22 #[.val (.long q1), .second, .val (.long q2), .second, .val (.long q3), .second, .val (.int p4), .val (.long (q1 + q2)), .second, .unset, .unset, .unset] [(.long (0 : Int64)), (.long (q1 + q2))])) _
      refine XS.lcmp X0.here hx rfl (hb hby d1_22) rfl ?_
      exact kt
    by_cases hc23 : (lcmpW (q1 + q2) (0 : Int64)) < (0 : Int32)
    · have pre_3 : ∀ t, Steps p.tables e below (s₁.setTop (mkF m 43 #[.val (.long q1), .second, .val (.long q2), .second, .val (.long q3), .second, .val (.int p4), .val (.long (9223372036854775807 : Int64)), .second, .val (.int ((p4 >>> ((1 : Int32) &&& 31)) &&& (7 : Int32))), .unset, .unset] [(.int (3 : Int32)), (.int ((p4 >>> ((1 : Int32) &&& 31)) &&& (7 : Int32)))])) t → Steps p.tables e below (s₁.setTop (entryFrame m #[(.long q1), (.long q2), (.long q3), (.int p4)] 12)) t := by
        intro t kt
        refine pre_2 _ ?_
        show Steps p.tables e below (s₁.setTop (mkF m 23 #[.val (.long q1), .second, .val (.long q2), .second, .val (.long q3), .second, .val (.int p4), .val (.long (q1 + q2)), .second, .unset, .unset, .unset] [(.int (lcmpW (q1 + q2) (0 : Int64)))])) _
        refine XS.ifNo X0.here hx rfl (hb hby d1_23) rfl ((if0 _ _).trans (tlt hc23).2.1) ?_
        show Steps p.tables e below (s₁.setTop (mkF m 26 #[.val (.long q1), .second, .val (.long q2), .second, .val (.long q3), .second, .val (.int p4), .val (.long (q1 + q2)), .second, .unset, .unset, .unset] [])) _
        refine X0.ldc2Long hx hown (mvT hZ (hw _ (List.mem_of_getElem? (i := 0) rfl))) (g := (mkF m 26 #[.val (.long q1), .second, .val (.long q2), .second, .val (.long q3), .second, .val (.int p4), .val (.long (q1 + q2)), .second, .unset, .unset, .unset] [])) rfl (hb hby d1_26) _ ?_
        show Steps p.tables e below (s₁.setTop (mkF m 29 #[.val (.long q1), .second, .val (.long q2), .second, .val (.long q3), .second, .val (.int p4), .val (.long (q1 + q2)), .second, .unset, .unset, .unset] [(.long (9223372036854775807 : Int64))])) _
        refine XS.lstore X0.here hx rfl (hb hby d1_29) rfl (l' := #[.val (.long q1), .second, .val (.long q2), .second, .val (.long q3), .second, .val (.int p4), .val (.long (9223372036854775807 : Int64)), .second, .unset, .unset, .unset]) rfl ?_
        show Steps p.tables e below (s₁.setTop (mkF m 31 #[.val (.long q1), .second, .val (.long q2), .second, .val (.long q3), .second, .val (.int p4), .val (.long (9223372036854775807 : Int64)), .second, .unset, .unset, .unset] [])) _
        refine XS.iload X0.here hx rfl (hb hby d1_31) rfl ?_
        show Steps p.tables e below (s₁.setTop (mkF m 33 #[.val (.long q1), .second, .val (.long q2), .second, .val (.long q3), .second, .val (.int p4), .val (.long (9223372036854775807 : Int64)), .second, .unset, .unset, .unset] [(.int p4)])) _
        refine XS.iconst X0.here hx rfl (hb hby d1_33) ?_
        show Steps p.tables e below (s₁.setTop (mkF m 34 #[.val (.long q1), .second, .val (.long q2), .second, .val (.long q3), .second, .val (.int p4), .val (.long (9223372036854775807 : Int64)), .second, .unset, .unset, .unset] [(.int (1 : Int32)), (.int p4)])) _
        refine XS.ishr X0.here hx rfl (hb hby d1_34) rfl ?_
        show Steps p.tables e below (s₁.setTop (mkF m 35 #[.val (.long q1), .second, .val (.long q2), .second, .val (.long q3), .second, .val (.int p4), .val (.long (9223372036854775807 : Int64)), .second, .unset, .unset, .unset] [(.int (p4 >>> ((1 : Int32) &&& 31)))])) _
        refine XS.bipush X0.here hx rfl (hb hby d1_35) ?_
        show Steps p.tables e below (s₁.setTop (mkF m 37 #[.val (.long q1), .second, .val (.long q2), .second, .val (.long q3), .second, .val (.int p4), .val (.long (9223372036854775807 : Int64)), .second, .unset, .unset, .unset] [(.int (7 : Int32)), (.int (p4 >>> ((1 : Int32) &&& 31)))])) _
        refine XS.iand X0.here hx rfl (hb hby d1_37) rfl ?_
        show Steps p.tables e below (s₁.setTop (mkF m 38 #[.val (.long q1), .second, .val (.long q2), .second, .val (.long q3), .second, .val (.int p4), .val (.long (9223372036854775807 : Int64)), .second, .unset, .unset, .unset] [(.int ((p4 >>> ((1 : Int32) &&& 31)) &&& (7 : Int32)))])) _
        refine XS.istore X0.here hx rfl (hb hby d1_38) rfl (l' := #[.val (.long q1), .second, .val (.long q2), .second, .val (.long q3), .second, .val (.int p4), .val (.long (9223372036854775807 : Int64)), .second, .val (.int ((p4 >>> ((1 : Int32) &&& 31)) &&& (7 : Int32))), .unset, .unset]) rfl ?_
        show Steps p.tables e below (s₁.setTop (mkF m 40 #[.val (.long q1), .second, .val (.long q2), .second, .val (.long q3), .second, .val (.int p4), .val (.long (9223372036854775807 : Int64)), .second, .val (.int ((p4 >>> ((1 : Int32) &&& 31)) &&& (7 : Int32))), .unset, .unset] [])) _
        refine XS.iload X0.here hx rfl (hb hby d1_40) rfl ?_
        show Steps p.tables e below (s₁.setTop (mkF m 42 #[.val (.long q1), .second, .val (.long q2), .second, .val (.long q3), .second, .val (.int p4), .val (.long (9223372036854775807 : Int64)), .second, .val (.int ((p4 >>> ((1 : Int32) &&& 31)) &&& (7 : Int32))), .unset, .unset] [(.int ((p4 >>> ((1 : Int32) &&& 31)) &&& (7 : Int32)))])) _
        refine XS.iconst X0.here hx rfl (hb hby d1_42) ?_
        exact kt
      by_cases hc43 : (3 : Int32) < ((p4 >>> ((1 : Int32) &&& 31)) &&& (7 : Int32))
      · have pre_4 : ∀ t, Steps p.tables e below (s₁.setTop (mkF m 73 #[.val (.long q1), .second, .val (.long q2), .second, .val (.long q3), .second, .val (.int p4), .val (.long (9223372036854775807 : Int64)), .second, .val (.int ((p4 >>> ((1 : Int32) &&& 31)) &&& (7 : Int32))), .val (.long ((((p4 >>> ((1 : Int32) &&& 31)) &&& (7 : Int32)) - (3 : Int32)).toInt64)), .second] [(.int (lcmpW (9223372036854775807 : Int64) ((9223372036854775807 : Int64) - ((((p4 >>> ((1 : Int32) &&& 31)) &&& (7 : Int32)) - (3 : Int32)).toInt64))))])) t → Steps p.tables e below (s₁.setTop (entryFrame m #[(.long q1), (.long q2), (.long q3), (.int p4)] 12)) t := by
          intro t kt
          refine pre_3 _ ?_
          show Steps p.tables e below (s₁.setTop (mkF m 43 #[.val (.long q1), .second, .val (.long q2), .second, .val (.long q3), .second, .val (.int p4), .val (.long (9223372036854775807 : Int64)), .second, .val (.int ((p4 >>> ((1 : Int32) &&& 31)) &&& (7 : Int32))), .unset, .unset] [(.int (3 : Int32)), (.int ((p4 >>> ((1 : Int32) &&& 31)) &&& (7 : Int32)))])) _
          refine XS.icmpYes X0.here hx rfl (pc0 := 43) (pc' := 57) rfl (hb hby d1_43) rfl (tlt hc43).2.2.1 (by decide) (by decide) ?_
          show Steps p.tables e below (s₁.setTop (mkF m 57 #[.val (.long q1), .second, .val (.long q2), .second, .val (.long q3), .second, .val (.int p4), .val (.long (9223372036854775807 : Int64)), .second, .val (.int ((p4 >>> ((1 : Int32) &&& 31)) &&& (7 : Int32))), .unset, .unset] [])) _
          refine XS.iload X0.here hx rfl (hb hby d1_57) rfl ?_
          show Steps p.tables e below (s₁.setTop (mkF m 59 #[.val (.long q1), .second, .val (.long q2), .second, .val (.long q3), .second, .val (.int p4), .val (.long (9223372036854775807 : Int64)), .second, .val (.int ((p4 >>> ((1 : Int32) &&& 31)) &&& (7 : Int32))), .unset, .unset] [(.int ((p4 >>> ((1 : Int32) &&& 31)) &&& (7 : Int32)))])) _
          refine XS.iconst X0.here hx rfl (hb hby d1_59) ?_
          show Steps p.tables e below (s₁.setTop (mkF m 60 #[.val (.long q1), .second, .val (.long q2), .second, .val (.long q3), .second, .val (.int p4), .val (.long (9223372036854775807 : Int64)), .second, .val (.int ((p4 >>> ((1 : Int32) &&& 31)) &&& (7 : Int32))), .unset, .unset] [(.int (3 : Int32)), (.int ((p4 >>> ((1 : Int32) &&& 31)) &&& (7 : Int32)))])) _
          refine XS.isub X0.here hx rfl (hb hby d1_60) rfl ?_
          show Steps p.tables e below (s₁.setTop (mkF m 61 #[.val (.long q1), .second, .val (.long q2), .second, .val (.long q3), .second, .val (.int p4), .val (.long (9223372036854775807 : Int64)), .second, .val (.int ((p4 >>> ((1 : Int32) &&& 31)) &&& (7 : Int32))), .unset, .unset] [(.int (((p4 >>> ((1 : Int32) &&& 31)) &&& (7 : Int32)) - (3 : Int32)))])) _
          refine XS.i2l X0.here hx rfl (hb hby d1_61) rfl ?_
          show Steps p.tables e below (s₁.setTop (mkF m 62 #[.val (.long q1), .second, .val (.long q2), .second, .val (.long q3), .second, .val (.int p4), .val (.long (9223372036854775807 : Int64)), .second, .val (.int ((p4 >>> ((1 : Int32) &&& 31)) &&& (7 : Int32))), .unset, .unset] [(.long ((((p4 >>> ((1 : Int32) &&& 31)) &&& (7 : Int32)) - (3 : Int32)).toInt64))])) _
          refine XS.lstore X0.here hx rfl (hb hby d1_62) rfl (l' := #[.val (.long q1), .second, .val (.long q2), .second, .val (.long q3), .second, .val (.int p4), .val (.long (9223372036854775807 : Int64)), .second, .val (.int ((p4 >>> ((1 : Int32) &&& 31)) &&& (7 : Int32))), .val (.long ((((p4 >>> ((1 : Int32) &&& 31)) &&& (7 : Int32)) - (3 : Int32)).toInt64)), .second]) rfl ?_
          show Steps p.tables e below (s₁.setTop (mkF m 64 #[.val (.long q1), .second, .val (.long q2), .second, .val (.long q3), .second, .val (.int p4), .val (.long (9223372036854775807 : Int64)), .second, .val (.int ((p4 >>> ((1 : Int32) &&& 31)) &&& (7 : Int32))), .val (.long ((((p4 >>> ((1 : Int32) &&& 31)) &&& (7 : Int32)) - (3 : Int32)).toInt64)), .second] [])) _
          refine XS.lload X0.here hx rfl (hb hby d1_64) rfl ?_
          show Steps p.tables e below (s₁.setTop (mkF m 66 #[.val (.long q1), .second, .val (.long q2), .second, .val (.long q3), .second, .val (.int p4), .val (.long (9223372036854775807 : Int64)), .second, .val (.int ((p4 >>> ((1 : Int32) &&& 31)) &&& (7 : Int32))), .val (.long ((((p4 >>> ((1 : Int32) &&& 31)) &&& (7 : Int32)) - (3 : Int32)).toInt64)), .second] [(.long (9223372036854775807 : Int64))])) _
          refine X0.ldc2Long hx hown (mvT hZ (hw _ (List.mem_of_getElem? (i := 0) rfl))) (g := (mkF m 66 #[.val (.long q1), .second, .val (.long q2), .second, .val (.long q3), .second, .val (.int p4), .val (.long (9223372036854775807 : Int64)), .second, .val (.int ((p4 >>> ((1 : Int32) &&& 31)) &&& (7 : Int32))), .val (.long ((((p4 >>> ((1 : Int32) &&& 31)) &&& (7 : Int32)) - (3 : Int32)).toInt64)), .second] [(.long (9223372036854775807 : Int64))])) rfl (hb hby d1_66) _ ?_
          show Steps p.tables e below (s₁.setTop (mkF m 69 #[.val (.long q1), .second, .val (.long q2), .second, .val (.long q3), .second, .val (.int p4), .val (.long (9223372036854775807 : Int64)), .second, .val (.int ((p4 >>> ((1 : Int32) &&& 31)) &&& (7 : Int32))), .val (.long ((((p4 >>> ((1 : Int32) &&& 31)) &&& (7 : Int32)) - (3 : Int32)).toInt64)), .second] [(.long (9223372036854775807 : Int64)), (.long (9223372036854775807 : Int64))])) _
          refine XS.lload X0.here hx rfl (hb hby d1_69) rfl ?_
          show Steps p.tables e below (s₁.setTop (mkF m 71 #[.val (.long q1), .second, .val (.long q2), .second, .val (.long q3), .second, .val (.int p4), .val (.long (9223372036854775807 : Int64)), .second, .val (.int ((p4 >>> ((1 : Int32) &&& 31)) &&& (7 : Int32))), .val (.long ((((p4 >>> ((1 : Int32) &&& 31)) &&& (7 : Int32)) - (3 : Int32)).toInt64)), .second] [(.long ((((p4 >>> ((1 : Int32) &&& 31)) &&& (7 : Int32)) - (3 : Int32)).toInt64)), (.long (9223372036854775807 : Int64)), (.long (9223372036854775807 : Int64))])) _
          refine XS.lsub X0.here hx rfl (hb hby d1_71) rfl ?_
          show Steps p.tables e below (s₁.setTop (mkF m 72 #[.val (.long q1), .second, .val (.long q2), .second, .val (.long q3), .second, .val (.int p4), .val (.long (9223372036854775807 : Int64)), .second, .val (.int ((p4 >>> ((1 : Int32) &&& 31)) &&& (7 : Int32))), .val (.long ((((p4 >>> ((1 : Int32) &&& 31)) &&& (7 : Int32)) - (3 : Int32)).toInt64)), .second] [(.long ((9223372036854775807 : Int64) - ((((p4 >>> ((1 : Int32) &&& 31)) &&& (7 : Int32)) - (3 : Int32)).toInt64))), (.long (9223372036854775807 : Int64))])) _
          refine XS.lcmp X0.here hx rfl (hb hby d1_72) rfl ?_
          exact kt
        by_cases hc73 : (0 : Int32) < (lcmpW (9223372036854775807 : Int64) ((9223372036854775807 : Int64) - ((((p4 >>> ((1 : Int32) &&& 31)) &&& (7 : Int32)) - (3 : Int32)).toInt64)))
        · obtain ⟨fs, hr, hrun, hended, hW, hsame⟩ := X0.leave (v := some (.long (9223372036854775807 : Int64))) (fun h => by rw [Bd.returns] at h; cases h) (hlocks := Bd.notSynchronized)
          refine ⟨_, _, pre_4 _ ?_, hrun, hended, _, _, rfl, ?_, ⟨_, rfl⟩, hW, hsame.mono (by decide) (by decide)⟩
          · show Steps p.tables e below (s₁.setTop (mkF m 73 #[.val (.long q1), .second, .val (.long q2), .second, .val (.long q3), .second, .val (.int p4), .val (.long (9223372036854775807 : Int64)), .second, .val (.int ((p4 >>> ((1 : Int32) &&& 31)) &&& (7 : Int32))), .val (.long ((((p4 >>> ((1 : Int32) &&& 31)) &&& (7 : Int32)) - (3 : Int32)).toInt64)), .second] [(.int (lcmpW (9223372036854775807 : Int64) ((9223372036854775807 : Int64) - ((((p4 >>> ((1 : Int32) &&& 31)) &&& (7 : Int32)) - (3 : Int32)).toInt64))))])) _
            refine XS.ifNo X0.here hx rfl (hb hby d1_73) rfl ((if0 _ _).trans (tlt hc73).2.2.2) ?_
            show Steps p.tables e below (s₁.setTop (mkF m 76 #[.val (.long q1), .second, .val (.long q2), .second, .val (.long q3), .second, .val (.int p4), .val (.long (9223372036854775807 : Int64)), .second, .val (.int ((p4 >>> ((1 : Int32) &&& 31)) &&& (7 : Int32))), .val (.long ((((p4 >>> ((1 : Int32) &&& 31)) &&& (7 : Int32)) - (3 : Int32)).toInt64)), .second] [])) _
            refine X0.ldc2Long hx hown (mvT hZ (hw _ (List.mem_of_getElem? (i := 0) rfl))) (g := (mkF m 76 #[.val (.long q1), .second, .val (.long q2), .second, .val (.long q3), .second, .val (.int p4), .val (.long (9223372036854775807 : Int64)), .second, .val (.int ((p4 >>> ((1 : Int32) &&& 31)) &&& (7 : Int32))), .val (.long ((((p4 >>> ((1 : Int32) &&& 31)) &&& (7 : Int32)) - (3 : Int32)).toInt64)), .second] [])) rfl (hb hby d1_76) _ ?_
            show Steps p.tables e below (s₁.setTop (mkF m 79 #[.val (.long q1), .second, .val (.long q2), .second, .val (.long q3), .second, .val (.int p4), .val (.long (9223372036854775807 : Int64)), .second, .val (.int ((p4 >>> ((1 : Int32) &&& 31)) &&& (7 : Int32))), .val (.long ((((p4 >>> ((1 : Int32) &&& 31)) &&& (7 : Int32)) - (3 : Int32)).toInt64)), .second] [(.long (9223372036854775807 : Int64))])) _
            exact X0.lreturnOut hx Bd.returns (hb hby d1_79) hr
          · show Q_rm_ps Z q1 q2 q3 p4 h0 n0 _ s₁.heap _
            rw [e0]
            exact ⟨_, rfl, N0, rfl, (by decide)⟩
        · obtain ⟨fs, hr, hrun, hended, hW, hsame⟩ := X0.leave (v := some (.long ((9223372036854775807 : Int64) + ((((p4 >>> ((1 : Int32) &&& 31)) &&& (7 : Int32)) - (3 : Int32)).toInt64)))) (fun h => by rw [Bd.returns] at h; cases h) (hlocks := Bd.notSynchronized)
          refine ⟨_, _, pre_4 _ ?_, hrun, hended, _, _, rfl, ?_, ⟨_, rfl⟩, hW, hsame.mono (by decide) (by decide)⟩
          · show Steps p.tables e below (s₁.setTop (mkF m 73 #[.val (.long q1), .second, .val (.long q2), .second, .val (.long q3), .second, .val (.int p4), .val (.long (9223372036854775807 : Int64)), .second, .val (.int ((p4 >>> ((1 : Int32) &&& 31)) &&& (7 : Int32))), .val (.long ((((p4 >>> ((1 : Int32) &&& 31)) &&& (7 : Int32)) - (3 : Int32)).toInt64)), .second] [(.int (lcmpW (9223372036854775807 : Int64) ((9223372036854775807 : Int64) - ((((p4 >>> ((1 : Int32) &&& 31)) &&& (7 : Int32)) - (3 : Int32)).toInt64))))])) _
            refine XS.ifYes X0.here hx rfl (pc0 := 73) (pc' := 80) rfl (hb hby d1_73) rfl ((if0 _ _).trans (flt hc73).2.2.2) (by decide) (by decide) ?_
            show Steps p.tables e below (s₁.setTop (mkF m 80 #[.val (.long q1), .second, .val (.long q2), .second, .val (.long q3), .second, .val (.int p4), .val (.long (9223372036854775807 : Int64)), .second, .val (.int ((p4 >>> ((1 : Int32) &&& 31)) &&& (7 : Int32))), .val (.long ((((p4 >>> ((1 : Int32) &&& 31)) &&& (7 : Int32)) - (3 : Int32)).toInt64)), .second] [])) _
            refine XS.lload X0.here hx rfl (hb hby d1_80) rfl ?_
            show Steps p.tables e below (s₁.setTop (mkF m 82 #[.val (.long q1), .second, .val (.long q2), .second, .val (.long q3), .second, .val (.int p4), .val (.long (9223372036854775807 : Int64)), .second, .val (.int ((p4 >>> ((1 : Int32) &&& 31)) &&& (7 : Int32))), .val (.long ((((p4 >>> ((1 : Int32) &&& 31)) &&& (7 : Int32)) - (3 : Int32)).toInt64)), .second] [(.long (9223372036854775807 : Int64))])) _
            refine XS.lload X0.here hx rfl (hb hby d1_82) rfl ?_
            show Steps p.tables e below (s₁.setTop (mkF m 84 #[.val (.long q1), .second, .val (.long q2), .second, .val (.long q3), .second, .val (.int p4), .val (.long (9223372036854775807 : Int64)), .second, .val (.int ((p4 >>> ((1 : Int32) &&& 31)) &&& (7 : Int32))), .val (.long ((((p4 >>> ((1 : Int32) &&& 31)) &&& (7 : Int32)) - (3 : Int32)).toInt64)), .second] [(.long ((((p4 >>> ((1 : Int32) &&& 31)) &&& (7 : Int32)) - (3 : Int32)).toInt64)), (.long (9223372036854775807 : Int64))])) _
            refine XS.ladd X0.here hx rfl (hb hby d1_84) rfl ?_
            show Steps p.tables e below (s₁.setTop (mkF m 85 #[.val (.long q1), .second, .val (.long q2), .second, .val (.long q3), .second, .val (.int p4), .val (.long (9223372036854775807 : Int64)), .second, .val (.int ((p4 >>> ((1 : Int32) &&& 31)) &&& (7 : Int32))), .val (.long ((((p4 >>> ((1 : Int32) &&& 31)) &&& (7 : Int32)) - (3 : Int32)).toInt64)), .second] [(.long ((9223372036854775807 : Int64) + ((((p4 >>> ((1 : Int32) &&& 31)) &&& (7 : Int32)) - (3 : Int32)).toInt64)))])) _
            exact X0.lreturnOut hx Bd.returns (hb hby d1_85) hr
          · show Q_rm_ps Z q1 q2 q3 p4 h0 n0 _ s₁.heap _
            rw [e0]
            exact ⟨_, rfl, N0, rfl, (own_s4 _ _ (own_off _) (by decide) hc43 hc73)⟩
      · obtain ⟨_, _, ⟨T5, L5, k5, n5⟩, -, X5, ⟨Lc5, hQ5, l5, y5, z5⟩, st5⟩ := Jvm.LawKit.callS X0 hx (y := (⟨"java/lang/Math", "max", "(JJ)J"⟩ : MethodName)) hown (mvT hZ (hw _ (List.mem_of_getElem? (i := 74) rfl))) (mvT hZ (hw _ (List.mem_of_getElem? (i := 75) rfl))) (mvT hZ (hw _ (List.mem_of_getElem? (i := 76) rfl))) (mvT hZ (hw _ (List.mem_of_getElem? (i := 77) rfl))) (by decide) (backOf (W := 0) (rm_max l Z a0 hw [] (0 : Int64) ((9223372036854775807 : Int64) - (((p4 >>> ((1 : Int32) &&& 31)) &&& (7 : Int32)).toInt64)) h0 n0 Z0 ) hZ (hw _ (List.mem_of_getElem? (i := 77) rfl)) (hw _ (List.mem_of_getElem? (i := 76) rfl)) (by decide) (by decide)) (g := (mkF m 53 #[.val (.long q1), .second, .val (.long q2), .second, .val (.long q3), .second, .val (.int p4), .val (.long (9223372036854775807 : Int64)), .second, .val (.int ((p4 >>> ((1 : Int32) &&& 31)) &&& (7 : Int32))), .unset, .unset] [(.long ((9223372036854775807 : Int64) - (((p4 >>> ((1 : Int32) &&& 31)) &&& (7 : Int32)).toInt64))), (.long (0 : Int64))])) rfl (by rw [hml]; rfl) (argsL := [(.long (0 : Int64)), (.long ((9223372036854775807 : Int64) - (((p4 >>> ((1 : Int32) &&& 31)) &&& (7 : Int32)).toInt64)))]) (rest := []) (lenOf pd__JJ_J_303 rfl) rfl (by show 2 * 0 + _ ≤ _; exact Nat.le_of_eq rfl) (hb hby d1_53) (fun _ _ => ⟨rfl, e0, (by decide : 0 + 0 ≤ _), (by decide : 0 + 0 ≤ _)⟩)
        dsimp only [Pt.U, Pt.locs, Pt.cells, Pt.slots] at X5 l5 y5 z5 st5 hQ5
        subst l5 y5 z5
        obtain ⟨rfl, N5q, e5⟩ := hQ5
        have N5 := Fr.app N0 N5q
        obtain ⟨fs, hr, hrun, hended, hW, hsame⟩ := X5.leave (v := some (.long (own_max (0 : Int64) ((9223372036854775807 : Int64) - (((p4 >>> ((1 : Int32) &&& 31)) &&& (7 : Int32)).toInt64))))) (fun h => by rw [Bd.returns] at h; cases h) (hlocks := Bd.notSynchronized)
        refine ⟨_, _, pre_3 _ ?_, hrun, hended, _, _, rfl, ?_, ⟨_, rfl⟩, hW, hsame.mono (by decide) (by decide)⟩
        · show Steps p.tables e below (s₁.setTop (mkF m 43 #[.val (.long q1), .second, .val (.long q2), .second, .val (.long q3), .second, .val (.int p4), .val (.long (9223372036854775807 : Int64)), .second, .val (.int ((p4 >>> ((1 : Int32) &&& 31)) &&& (7 : Int32))), .unset, .unset] [(.int (3 : Int32)), (.int ((p4 >>> ((1 : Int32) &&& 31)) &&& (7 : Int32)))])) _
          refine XS.icmpNo X0.here hx rfl (hb hby d1_43) rfl (flt hc43).2.2.1 ?_
          show Steps p.tables e below (s₁.setTop (mkF m 46 #[.val (.long q1), .second, .val (.long q2), .second, .val (.long q3), .second, .val (.int p4), .val (.long (9223372036854775807 : Int64)), .second, .val (.int ((p4 >>> ((1 : Int32) &&& 31)) &&& (7 : Int32))), .unset, .unset] [])) _
          refine XS.lconst X0.here hx rfl (hb hby d1_46) ?_
          show Steps p.tables e below (s₁.setTop (mkF m 47 #[.val (.long q1), .second, .val (.long q2), .second, .val (.long q3), .second, .val (.int p4), .val (.long (9223372036854775807 : Int64)), .second, .val (.int ((p4 >>> ((1 : Int32) &&& 31)) &&& (7 : Int32))), .unset, .unset] [(.long (0 : Int64))])) _
          refine XS.lload X0.here hx rfl (hb hby d1_47) rfl ?_
          show Steps p.tables e below (s₁.setTop (mkF m 49 #[.val (.long q1), .second, .val (.long q2), .second, .val (.long q3), .second, .val (.int p4), .val (.long (9223372036854775807 : Int64)), .second, .val (.int ((p4 >>> ((1 : Int32) &&& 31)) &&& (7 : Int32))), .unset, .unset] [(.long (9223372036854775807 : Int64)), (.long (0 : Int64))])) _
          refine XS.iload X0.here hx rfl (hb hby d1_49) rfl ?_
          show Steps p.tables e below (s₁.setTop (mkF m 51 #[.val (.long q1), .second, .val (.long q2), .second, .val (.long q3), .second, .val (.int p4), .val (.long (9223372036854775807 : Int64)), .second, .val (.int ((p4 >>> ((1 : Int32) &&& 31)) &&& (7 : Int32))), .unset, .unset] [(.int ((p4 >>> ((1 : Int32) &&& 31)) &&& (7 : Int32))), (.long (9223372036854775807 : Int64)), (.long (0 : Int64))])) _
          refine XS.i2l X0.here hx rfl (hb hby d1_51) rfl ?_
          show Steps p.tables e below (s₁.setTop (mkF m 52 #[.val (.long q1), .second, .val (.long q2), .second, .val (.long q3), .second, .val (.int p4), .val (.long (9223372036854775807 : Int64)), .second, .val (.int ((p4 >>> ((1 : Int32) &&& 31)) &&& (7 : Int32))), .unset, .unset] [(.long (((p4 >>> ((1 : Int32) &&& 31)) &&& (7 : Int32)).toInt64)), (.long (9223372036854775807 : Int64)), (.long (0 : Int64))])) _
          refine XS.lsub X0.here hx rfl (hb hby d1_52) rfl ?_
          show Steps p.tables e below (s₁.setTop (mkF m 53 #[.val (.long q1), .second, .val (.long q2), .second, .val (.long q3), .second, .val (.int p4), .val (.long (9223372036854775807 : Int64)), .second, .val (.int ((p4 >>> ((1 : Int32) &&& 31)) &&& (7 : Int32))), .unset, .unset] [(.long ((9223372036854775807 : Int64) - (((p4 >>> ((1 : Int32) &&& 31)) &&& (7 : Int32)).toInt64))), (.long (0 : Int64))])) _
          refine st5 _ ?_
          show Steps p.tables e below (T5.setTop (mkF m 56 #[.val (.long q1), .second, .val (.long q2), .second, .val (.long q3), .second, .val (.int p4), .val (.long (9223372036854775807 : Int64)), .second, .val (.int ((p4 >>> ((1 : Int32) &&& 31)) &&& (7 : Int32))), .unset, .unset] [(.long (own_max (0 : Int64) ((9223372036854775807 : Int64) - (((p4 >>> ((1 : Int32) &&& 31)) &&& (7 : Int32)).toInt64))))])) _
          exact X5.lreturnOut hx Bd.returns (hb hby d1_56) hr
        · show Q_rm_ps Z q1 q2 q3 p4 h0 n0 _ T5.heap _
          rw [e5]
          exact ⟨_, rfl, N5, rfl, (own_s2 _)⟩
    · have pre_6 : ∀ t, Steps p.tables e below (s₁.setTop (mkF m 43 #[.val (.long q1), .second, .val (.long q2), .second, .val (.long q3), .second, .val (.int p4), .val (.long (q1 + q2)), .second, .val (.int ((p4 >>> ((1 : Int32) &&& 31)) &&& (7 : Int32))), .unset, .unset] [(.int (3 : Int32)), (.int ((p4 >>> ((1 : Int32) &&& 31)) &&& (7 : Int32)))])) t → Steps p.tables e below (s₁.setTop (entryFrame m #[(.long q1), (.long q2), (.long q3), (.int p4)] 12)) t := by
        intro t kt
        refine pre_2 _ ?_
        show Steps p.tables e below (s₁.setTop (mkF m 23 #[.val (.long q1), .second, .val (.long q2), .second, .val (.long q3), .second, .val (.int p4), .val (.long (q1 + q2)), .second, .unset, .unset, .unset] [(.int (lcmpW (q1 + q2) (0 : Int64)))])) _
        refine XS.ifYes X0.here hx rfl (pc0 := 23) (pc' := 31) rfl (hb hby d1_23) rfl ((if0 _ _).trans (flt hc23).2.1) (by decide) (by decide) ?_
        show Steps p.tables e below (s₁.setTop (mkF m 31 #[.val (.long q1), .second, .val (.long q2), .second, .val (.long q3), .second, .val (.int p4), .val (.long (q1 + q2)), .second, .unset, .unset, .unset] [])) _
        refine XS.iload X0.here hx rfl (hb hby d1_31) rfl ?_
        show Steps p.tables e below (s₁.setTop (mkF m 33 #[.val (.long q1), .second, .val (.long q2), .second, .val (.long q3), .second, .val (.int p4), .val (.long (q1 + q2)), .second, .unset, .unset, .unset] [(.int p4)])) _
        refine XS.iconst X0.here hx rfl (hb hby d1_33) ?_
        show Steps p.tables e below (s₁.setTop (mkF m 34 #[.val (.long q1), .second, .val (.long q2), .second, .val (.long q3), .second, .val (.int p4), .val (.long (q1 + q2)), .second, .unset, .unset, .unset] [(.int (1 : Int32)), (.int p4)])) _
        refine XS.ishr X0.here hx rfl (hb hby d1_34) rfl ?_
        show Steps p.tables e below (s₁.setTop (mkF m 35 #[.val (.long q1), .second, .val (.long q2), .second, .val (.long q3), .second, .val (.int p4), .val (.long (q1 + q2)), .second, .unset, .unset, .unset] [(.int (p4 >>> ((1 : Int32) &&& 31)))])) _
        refine XS.bipush X0.here hx rfl (hb hby d1_35) ?_
        show Steps p.tables e below (s₁.setTop (mkF m 37 #[.val (.long q1), .second, .val (.long q2), .second, .val (.long q3), .second, .val (.int p4), .val (.long (q1 + q2)), .second, .unset, .unset, .unset] [(.int (7 : Int32)), (.int (p4 >>> ((1 : Int32) &&& 31)))])) _
        refine XS.iand X0.here hx rfl (hb hby d1_37) rfl ?_
        show Steps p.tables e below (s₁.setTop (mkF m 38 #[.val (.long q1), .second, .val (.long q2), .second, .val (.long q3), .second, .val (.int p4), .val (.long (q1 + q2)), .second, .unset, .unset, .unset] [(.int ((p4 >>> ((1 : Int32) &&& 31)) &&& (7 : Int32)))])) _
        refine XS.istore X0.here hx rfl (hb hby d1_38) rfl (l' := #[.val (.long q1), .second, .val (.long q2), .second, .val (.long q3), .second, .val (.int p4), .val (.long (q1 + q2)), .second, .val (.int ((p4 >>> ((1 : Int32) &&& 31)) &&& (7 : Int32))), .unset, .unset]) rfl ?_
        show Steps p.tables e below (s₁.setTop (mkF m 40 #[.val (.long q1), .second, .val (.long q2), .second, .val (.long q3), .second, .val (.int p4), .val (.long (q1 + q2)), .second, .val (.int ((p4 >>> ((1 : Int32) &&& 31)) &&& (7 : Int32))), .unset, .unset] [])) _
        refine XS.iload X0.here hx rfl (hb hby d1_40) rfl ?_
        show Steps p.tables e below (s₁.setTop (mkF m 42 #[.val (.long q1), .second, .val (.long q2), .second, .val (.long q3), .second, .val (.int p4), .val (.long (q1 + q2)), .second, .val (.int ((p4 >>> ((1 : Int32) &&& 31)) &&& (7 : Int32))), .unset, .unset] [(.int ((p4 >>> ((1 : Int32) &&& 31)) &&& (7 : Int32)))])) _
        refine XS.iconst X0.here hx rfl (hb hby d1_42) ?_
        exact kt
      by_cases hc43 : (3 : Int32) < ((p4 >>> ((1 : Int32) &&& 31)) &&& (7 : Int32))
      · have pre_7 : ∀ t, Steps p.tables e below (s₁.setTop (mkF m 73 #[.val (.long q1), .second, .val (.long q2), .second, .val (.long q3), .second, .val (.int p4), .val (.long (q1 + q2)), .second, .val (.int ((p4 >>> ((1 : Int32) &&& 31)) &&& (7 : Int32))), .val (.long ((((p4 >>> ((1 : Int32) &&& 31)) &&& (7 : Int32)) - (3 : Int32)).toInt64)), .second] [(.int (lcmpW (q1 + q2) ((9223372036854775807 : Int64) - ((((p4 >>> ((1 : Int32) &&& 31)) &&& (7 : Int32)) - (3 : Int32)).toInt64))))])) t → Steps p.tables e below (s₁.setTop (entryFrame m #[(.long q1), (.long q2), (.long q3), (.int p4)] 12)) t := by
          intro t kt
          refine pre_6 _ ?_
          show Steps p.tables e below (s₁.setTop (mkF m 43 #[.val (.long q1), .second, .val (.long q2), .second, .val (.long q3), .second, .val (.int p4), .val (.long (q1 + q2)), .second, .val (.int ((p4 >>> ((1 : Int32) &&& 31)) &&& (7 : Int32))), .unset, .unset] [(.int (3 : Int32)), (.int ((p4 >>> ((1 : Int32) &&& 31)) &&& (7 : Int32)))])) _
          refine XS.icmpYes X0.here hx rfl (pc0 := 43) (pc' := 57) rfl (hb hby d1_43) rfl (tlt hc43).2.2.1 (by decide) (by decide) ?_
          show Steps p.tables e below (s₁.setTop (mkF m 57 #[.val (.long q1), .second, .val (.long q2), .second, .val (.long q3), .second, .val (.int p4), .val (.long (q1 + q2)), .second, .val (.int ((p4 >>> ((1 : Int32) &&& 31)) &&& (7 : Int32))), .unset, .unset] [])) _
          refine XS.iload X0.here hx rfl (hb hby d1_57) rfl ?_
          show Steps p.tables e below (s₁.setTop (mkF m 59 #[.val (.long q1), .second, .val (.long q2), .second, .val (.long q3), .second, .val (.int p4), .val (.long (q1 + q2)), .second, .val (.int ((p4 >>> ((1 : Int32) &&& 31)) &&& (7 : Int32))), .unset, .unset] [(.int ((p4 >>> ((1 : Int32) &&& 31)) &&& (7 : Int32)))])) _
          refine XS.iconst X0.here hx rfl (hb hby d1_59) ?_
          show Steps p.tables e below (s₁.setTop (mkF m 60 #[.val (.long q1), .second, .val (.long q2), .second, .val (.long q3), .second, .val (.int p4), .val (.long (q1 + q2)), .second, .val (.int ((p4 >>> ((1 : Int32) &&& 31)) &&& (7 : Int32))), .unset, .unset] [(.int (3 : Int32)), (.int ((p4 >>> ((1 : Int32) &&& 31)) &&& (7 : Int32)))])) _
          refine XS.isub X0.here hx rfl (hb hby d1_60) rfl ?_
          show Steps p.tables e below (s₁.setTop (mkF m 61 #[.val (.long q1), .second, .val (.long q2), .second, .val (.long q3), .second, .val (.int p4), .val (.long (q1 + q2)), .second, .val (.int ((p4 >>> ((1 : Int32) &&& 31)) &&& (7 : Int32))), .unset, .unset] [(.int (((p4 >>> ((1 : Int32) &&& 31)) &&& (7 : Int32)) - (3 : Int32)))])) _
          refine XS.i2l X0.here hx rfl (hb hby d1_61) rfl ?_
          show Steps p.tables e below (s₁.setTop (mkF m 62 #[.val (.long q1), .second, .val (.long q2), .second, .val (.long q3), .second, .val (.int p4), .val (.long (q1 + q2)), .second, .val (.int ((p4 >>> ((1 : Int32) &&& 31)) &&& (7 : Int32))), .unset, .unset] [(.long ((((p4 >>> ((1 : Int32) &&& 31)) &&& (7 : Int32)) - (3 : Int32)).toInt64))])) _
          refine XS.lstore X0.here hx rfl (hb hby d1_62) rfl (l' := #[.val (.long q1), .second, .val (.long q2), .second, .val (.long q3), .second, .val (.int p4), .val (.long (q1 + q2)), .second, .val (.int ((p4 >>> ((1 : Int32) &&& 31)) &&& (7 : Int32))), .val (.long ((((p4 >>> ((1 : Int32) &&& 31)) &&& (7 : Int32)) - (3 : Int32)).toInt64)), .second]) rfl ?_
          show Steps p.tables e below (s₁.setTop (mkF m 64 #[.val (.long q1), .second, .val (.long q2), .second, .val (.long q3), .second, .val (.int p4), .val (.long (q1 + q2)), .second, .val (.int ((p4 >>> ((1 : Int32) &&& 31)) &&& (7 : Int32))), .val (.long ((((p4 >>> ((1 : Int32) &&& 31)) &&& (7 : Int32)) - (3 : Int32)).toInt64)), .second] [])) _
          refine XS.lload X0.here hx rfl (hb hby d1_64) rfl ?_
          show Steps p.tables e below (s₁.setTop (mkF m 66 #[.val (.long q1), .second, .val (.long q2), .second, .val (.long q3), .second, .val (.int p4), .val (.long (q1 + q2)), .second, .val (.int ((p4 >>> ((1 : Int32) &&& 31)) &&& (7 : Int32))), .val (.long ((((p4 >>> ((1 : Int32) &&& 31)) &&& (7 : Int32)) - (3 : Int32)).toInt64)), .second] [(.long (q1 + q2))])) _
          refine X0.ldc2Long hx hown (mvT hZ (hw _ (List.mem_of_getElem? (i := 0) rfl))) (g := (mkF m 66 #[.val (.long q1), .second, .val (.long q2), .second, .val (.long q3), .second, .val (.int p4), .val (.long (q1 + q2)), .second, .val (.int ((p4 >>> ((1 : Int32) &&& 31)) &&& (7 : Int32))), .val (.long ((((p4 >>> ((1 : Int32) &&& 31)) &&& (7 : Int32)) - (3 : Int32)).toInt64)), .second] [(.long (q1 + q2))])) rfl (hb hby d1_66) _ ?_
          show Steps p.tables e below (s₁.setTop (mkF m 69 #[.val (.long q1), .second, .val (.long q2), .second, .val (.long q3), .second, .val (.int p4), .val (.long (q1 + q2)), .second, .val (.int ((p4 >>> ((1 : Int32) &&& 31)) &&& (7 : Int32))), .val (.long ((((p4 >>> ((1 : Int32) &&& 31)) &&& (7 : Int32)) - (3 : Int32)).toInt64)), .second] [(.long (9223372036854775807 : Int64)), (.long (q1 + q2))])) _
          refine XS.lload X0.here hx rfl (hb hby d1_69) rfl ?_
          show Steps p.tables e below (s₁.setTop (mkF m 71 #[.val (.long q1), .second, .val (.long q2), .second, .val (.long q3), .second, .val (.int p4), .val (.long (q1 + q2)), .second, .val (.int ((p4 >>> ((1 : Int32) &&& 31)) &&& (7 : Int32))), .val (.long ((((p4 >>> ((1 : Int32) &&& 31)) &&& (7 : Int32)) - (3 : Int32)).toInt64)), .second] [(.long ((((p4 >>> ((1 : Int32) &&& 31)) &&& (7 : Int32)) - (3 : Int32)).toInt64)), (.long (9223372036854775807 : Int64)), (.long (q1 + q2))])) _
          refine XS.lsub X0.here hx rfl (hb hby d1_71) rfl ?_
          show Steps p.tables e below (s₁.setTop (mkF m 72 #[.val (.long q1), .second, .val (.long q2), .second, .val (.long q3), .second, .val (.int p4), .val (.long (q1 + q2)), .second, .val (.int ((p4 >>> ((1 : Int32) &&& 31)) &&& (7 : Int32))), .val (.long ((((p4 >>> ((1 : Int32) &&& 31)) &&& (7 : Int32)) - (3 : Int32)).toInt64)), .second] [(.long ((9223372036854775807 : Int64) - ((((p4 >>> ((1 : Int32) &&& 31)) &&& (7 : Int32)) - (3 : Int32)).toInt64))), (.long (q1 + q2))])) _
          refine XS.lcmp X0.here hx rfl (hb hby d1_72) rfl ?_
          exact kt
        by_cases hc73 : (0 : Int32) < (lcmpW (q1 + q2) ((9223372036854775807 : Int64) - ((((p4 >>> ((1 : Int32) &&& 31)) &&& (7 : Int32)) - (3 : Int32)).toInt64)))
        · obtain ⟨fs, hr, hrun, hended, hW, hsame⟩ := X0.leave (v := some (.long (9223372036854775807 : Int64))) (fun h => by rw [Bd.returns] at h; cases h) (hlocks := Bd.notSynchronized)
          refine ⟨_, _, pre_7 _ ?_, hrun, hended, _, _, rfl, ?_, ⟨_, rfl⟩, hW, hsame.mono (by decide) (by decide)⟩
          · show Steps p.tables e below (s₁.setTop (mkF m 73 #[.val (.long q1), .second, .val (.long q2), .second, .val (.long q3), .second, .val (.int p4), .val (.long (q1 + q2)), .second, .val (.int ((p4 >>> ((1 : Int32) &&& 31)) &&& (7 : Int32))), .val (.long ((((p4 >>> ((1 : Int32) &&& 31)) &&& (7 : Int32)) - (3 : Int32)).toInt64)), .second] [(.int (lcmpW (q1 + q2) ((9223372036854775807 : Int64) - ((((p4 >>> ((1 : Int32) &&& 31)) &&& (7 : Int32)) - (3 : Int32)).toInt64))))])) _
            refine XS.ifNo X0.here hx rfl (hb hby d1_73) rfl ((if0 _ _).trans (tlt hc73).2.2.2) ?_
            show Steps p.tables e below (s₁.setTop (mkF m 76 #[.val (.long q1), .second, .val (.long q2), .second, .val (.long q3), .second, .val (.int p4), .val (.long (q1 + q2)), .second, .val (.int ((p4 >>> ((1 : Int32) &&& 31)) &&& (7 : Int32))), .val (.long ((((p4 >>> ((1 : Int32) &&& 31)) &&& (7 : Int32)) - (3 : Int32)).toInt64)), .second] [])) _
            refine X0.ldc2Long hx hown (mvT hZ (hw _ (List.mem_of_getElem? (i := 0) rfl))) (g := (mkF m 76 #[.val (.long q1), .second, .val (.long q2), .second, .val (.long q3), .second, .val (.int p4), .val (.long (q1 + q2)), .second, .val (.int ((p4 >>> ((1 : Int32) &&& 31)) &&& (7 : Int32))), .val (.long ((((p4 >>> ((1 : Int32) &&& 31)) &&& (7 : Int32)) - (3 : Int32)).toInt64)), .second] [])) rfl (hb hby d1_76) _ ?_
            show Steps p.tables e below (s₁.setTop (mkF m 79 #[.val (.long q1), .second, .val (.long q2), .second, .val (.long q3), .second, .val (.int p4), .val (.long (q1 + q2)), .second, .val (.int ((p4 >>> ((1 : Int32) &&& 31)) &&& (7 : Int32))), .val (.long ((((p4 >>> ((1 : Int32) &&& 31)) &&& (7 : Int32)) - (3 : Int32)).toInt64)), .second] [(.long (9223372036854775807 : Int64))])) _
            exact X0.lreturnOut hx Bd.returns (hb hby d1_79) hr
          · show Q_rm_ps Z q1 q2 q3 p4 h0 n0 _ s₁.heap _
            rw [e0]
            exact ⟨_, rfl, N0, rfl, (by decide)⟩
        · obtain ⟨fs, hr, hrun, hended, hW, hsame⟩ := X0.leave (v := some (.long ((q1 + q2) + ((((p4 >>> ((1 : Int32) &&& 31)) &&& (7 : Int32)) - (3 : Int32)).toInt64)))) (fun h => by rw [Bd.returns] at h; cases h) (hlocks := Bd.notSynchronized)
          refine ⟨_, _, pre_7 _ ?_, hrun, hended, _, _, rfl, ?_, ⟨_, rfl⟩, hW, hsame.mono (by decide) (by decide)⟩
          · show Steps p.tables e below (s₁.setTop (mkF m 73 #[.val (.long q1), .second, .val (.long q2), .second, .val (.long q3), .second, .val (.int p4), .val (.long (q1 + q2)), .second, .val (.int ((p4 >>> ((1 : Int32) &&& 31)) &&& (7 : Int32))), .val (.long ((((p4 >>> ((1 : Int32) &&& 31)) &&& (7 : Int32)) - (3 : Int32)).toInt64)), .second] [(.int (lcmpW (q1 + q2) ((9223372036854775807 : Int64) - ((((p4 >>> ((1 : Int32) &&& 31)) &&& (7 : Int32)) - (3 : Int32)).toInt64))))])) _
            refine XS.ifYes X0.here hx rfl (pc0 := 73) (pc' := 80) rfl (hb hby d1_73) rfl ((if0 _ _).trans (flt hc73).2.2.2) (by decide) (by decide) ?_
            show Steps p.tables e below (s₁.setTop (mkF m 80 #[.val (.long q1), .second, .val (.long q2), .second, .val (.long q3), .second, .val (.int p4), .val (.long (q1 + q2)), .second, .val (.int ((p4 >>> ((1 : Int32) &&& 31)) &&& (7 : Int32))), .val (.long ((((p4 >>> ((1 : Int32) &&& 31)) &&& (7 : Int32)) - (3 : Int32)).toInt64)), .second] [])) _
            refine XS.lload X0.here hx rfl (hb hby d1_80) rfl ?_
            show Steps p.tables e below (s₁.setTop (mkF m 82 #[.val (.long q1), .second, .val (.long q2), .second, .val (.long q3), .second, .val (.int p4), .val (.long (q1 + q2)), .second, .val (.int ((p4 >>> ((1 : Int32) &&& 31)) &&& (7 : Int32))), .val (.long ((((p4 >>> ((1 : Int32) &&& 31)) &&& (7 : Int32)) - (3 : Int32)).toInt64)), .second] [(.long (q1 + q2))])) _
            refine XS.lload X0.here hx rfl (hb hby d1_82) rfl ?_
            show Steps p.tables e below (s₁.setTop (mkF m 84 #[.val (.long q1), .second, .val (.long q2), .second, .val (.long q3), .second, .val (.int p4), .val (.long (q1 + q2)), .second, .val (.int ((p4 >>> ((1 : Int32) &&& 31)) &&& (7 : Int32))), .val (.long ((((p4 >>> ((1 : Int32) &&& 31)) &&& (7 : Int32)) - (3 : Int32)).toInt64)), .second] [(.long ((((p4 >>> ((1 : Int32) &&& 31)) &&& (7 : Int32)) - (3 : Int32)).toInt64)), (.long (q1 + q2))])) _
            refine XS.ladd X0.here hx rfl (hb hby d1_84) rfl ?_
            show Steps p.tables e below (s₁.setTop (mkF m 85 #[.val (.long q1), .second, .val (.long q2), .second, .val (.long q3), .second, .val (.int p4), .val (.long (q1 + q2)), .second, .val (.int ((p4 >>> ((1 : Int32) &&& 31)) &&& (7 : Int32))), .val (.long ((((p4 >>> ((1 : Int32) &&& 31)) &&& (7 : Int32)) - (3 : Int32)).toInt64)), .second] [(.long ((q1 + q2) + ((((p4 >>> ((1 : Int32) &&& 31)) &&& (7 : Int32)) - (3 : Int32)).toInt64)))])) _
            exact X0.lreturnOut hx Bd.returns (hb hby d1_85) hr
          · show Q_rm_ps Z q1 q2 q3 p4 h0 n0 _ s₁.heap _
            rw [e0]
            exact ⟨_, rfl, N0, rfl, (own_s4 _ _ (own_off _) (own_nn hc23) hc43 hc73)⟩
      · obtain ⟨_, _, ⟨T8, L8, k8, n8⟩, -, X8, ⟨Lc8, hQ8, l8, y8, z8⟩, st8⟩ := Jvm.LawKit.callS X0 hx (y := (⟨"java/lang/Math", "max", "(JJ)J"⟩ : MethodName)) hown (mvT hZ (hw _ (List.mem_of_getElem? (i := 74) rfl))) (mvT hZ (hw _ (List.mem_of_getElem? (i := 75) rfl))) (mvT hZ (hw _ (List.mem_of_getElem? (i := 76) rfl))) (mvT hZ (hw _ (List.mem_of_getElem? (i := 77) rfl))) (by decide) (backOf (W := 0) (rm_max l Z a0 hw [] (0 : Int64) ((q1 + q2) - (((p4 >>> ((1 : Int32) &&& 31)) &&& (7 : Int32)).toInt64)) h0 n0 Z0 ) hZ (hw _ (List.mem_of_getElem? (i := 77) rfl)) (hw _ (List.mem_of_getElem? (i := 76) rfl)) (by decide) (by decide)) (g := (mkF m 53 #[.val (.long q1), .second, .val (.long q2), .second, .val (.long q3), .second, .val (.int p4), .val (.long (q1 + q2)), .second, .val (.int ((p4 >>> ((1 : Int32) &&& 31)) &&& (7 : Int32))), .unset, .unset] [(.long ((q1 + q2) - (((p4 >>> ((1 : Int32) &&& 31)) &&& (7 : Int32)).toInt64))), (.long (0 : Int64))])) rfl (by rw [hml]; rfl) (argsL := [(.long (0 : Int64)), (.long ((q1 + q2) - (((p4 >>> ((1 : Int32) &&& 31)) &&& (7 : Int32)).toInt64)))]) (rest := []) (lenOf pd__JJ_J_303 rfl) rfl (by show 2 * 0 + _ ≤ _; exact Nat.le_of_eq rfl) (hb hby d1_53) (fun _ _ => ⟨rfl, e0, (by decide : 0 + 0 ≤ _), (by decide : 0 + 0 ≤ _)⟩)
        dsimp only [Pt.U, Pt.locs, Pt.cells, Pt.slots] at X8 l8 y8 z8 st8 hQ8
        subst l8 y8 z8
        obtain ⟨rfl, N8q, e8⟩ := hQ8
        have N8 := Fr.app N0 N8q
        obtain ⟨fs, hr, hrun, hended, hW, hsame⟩ := X8.leave (v := some (.long (own_max (0 : Int64) ((q1 + q2) - (((p4 >>> ((1 : Int32) &&& 31)) &&& (7 : Int32)).toInt64))))) (fun h => by rw [Bd.returns] at h; cases h) (hlocks := Bd.notSynchronized)
        refine ⟨_, _, pre_6 _ ?_, hrun, hended, _, _, rfl, ?_, ⟨_, rfl⟩, hW, hsame.mono (by decide) (by decide)⟩
        · show Steps p.tables e below (s₁.setTop (mkF m 43 #[.val (.long q1), .second, .val (.long q2), .second, .val (.long q3), .second, .val (.int p4), .val (.long (q1 + q2)), .second, .val (.int ((p4 >>> ((1 : Int32) &&& 31)) &&& (7 : Int32))), .unset, .unset] [(.int (3 : Int32)), (.int ((p4 >>> ((1 : Int32) &&& 31)) &&& (7 : Int32)))])) _
          refine XS.icmpNo X0.here hx rfl (hb hby d1_43) rfl (flt hc43).2.2.1 ?_
          show Steps p.tables e below (s₁.setTop (mkF m 46 #[.val (.long q1), .second, .val (.long q2), .second, .val (.long q3), .second, .val (.int p4), .val (.long (q1 + q2)), .second, .val (.int ((p4 >>> ((1 : Int32) &&& 31)) &&& (7 : Int32))), .unset, .unset] [])) _
          refine XS.lconst X0.here hx rfl (hb hby d1_46) ?_
          show Steps p.tables e below (s₁.setTop (mkF m 47 #[.val (.long q1), .second, .val (.long q2), .second, .val (.long q3), .second, .val (.int p4), .val (.long (q1 + q2)), .second, .val (.int ((p4 >>> ((1 : Int32) &&& 31)) &&& (7 : Int32))), .unset, .unset] [(.long (0 : Int64))])) _
          refine XS.lload X0.here hx rfl (hb hby d1_47) rfl ?_
          show Steps p.tables e below (s₁.setTop (mkF m 49 #[.val (.long q1), .second, .val (.long q2), .second, .val (.long q3), .second, .val (.int p4), .val (.long (q1 + q2)), .second, .val (.int ((p4 >>> ((1 : Int32) &&& 31)) &&& (7 : Int32))), .unset, .unset] [(.long (q1 + q2)), (.long (0 : Int64))])) _
          refine XS.iload X0.here hx rfl (hb hby d1_49) rfl ?_
          show Steps p.tables e below (s₁.setTop (mkF m 51 #[.val (.long q1), .second, .val (.long q2), .second, .val (.long q3), .second, .val (.int p4), .val (.long (q1 + q2)), .second, .val (.int ((p4 >>> ((1 : Int32) &&& 31)) &&& (7 : Int32))), .unset, .unset] [(.int ((p4 >>> ((1 : Int32) &&& 31)) &&& (7 : Int32))), (.long (q1 + q2)), (.long (0 : Int64))])) _
          refine XS.i2l X0.here hx rfl (hb hby d1_51) rfl ?_
          show Steps p.tables e below (s₁.setTop (mkF m 52 #[.val (.long q1), .second, .val (.long q2), .second, .val (.long q3), .second, .val (.int p4), .val (.long (q1 + q2)), .second, .val (.int ((p4 >>> ((1 : Int32) &&& 31)) &&& (7 : Int32))), .unset, .unset] [(.long (((p4 >>> ((1 : Int32) &&& 31)) &&& (7 : Int32)).toInt64)), (.long (q1 + q2)), (.long (0 : Int64))])) _
          refine XS.lsub X0.here hx rfl (hb hby d1_52) rfl ?_
          show Steps p.tables e below (s₁.setTop (mkF m 53 #[.val (.long q1), .second, .val (.long q2), .second, .val (.long q3), .second, .val (.int p4), .val (.long (q1 + q2)), .second, .val (.int ((p4 >>> ((1 : Int32) &&& 31)) &&& (7 : Int32))), .unset, .unset] [(.long ((q1 + q2) - (((p4 >>> ((1 : Int32) &&& 31)) &&& (7 : Int32)).toInt64))), (.long (0 : Int64))])) _
          refine st8 _ ?_
          show Steps p.tables e below (T8.setTop (mkF m 56 #[.val (.long q1), .second, .val (.long q2), .second, .val (.long q3), .second, .val (.int p4), .val (.long (q1 + q2)), .second, .val (.int ((p4 >>> ((1 : Int32) &&& 31)) &&& (7 : Int32))), .unset, .unset] [(.long (own_max (0 : Int64) ((q1 + q2) - (((p4 >>> ((1 : Int32) &&& 31)) &&& (7 : Int32)).toInt64))))])) _
          exact X8.lreturnOut hx Bd.returns (hb hby d1_56) hr
        · show Q_rm_ps Z q1 q2 q3 p4 h0 n0 _ T8.heap _
          rw [e8]
          exact ⟨_, rfl, N8, rfl, (own_s2 _)⟩
theorem pn_3 : plainName "java/lang/Record" = true := by first | (simp [plainName, overriddenIn]; done) | decide +kernel
theorem ef_rm_rec (m : MethodId) (x0 : Addr) : entryFrame m #[(.ref x0)] 1 = mkF m 0 #[.val (.ref x0)] [] := by first | (simp [entryFrame, mkF, argsToLocals, Value.category]; done) | rfl
def Q_rm_rec (Z : State) (a1 : Addr) (h0 : Heap) (n0 : Nat) (v : Option Value) (h : Heap) (L : List Loc) : Prop := v = none ∧ Fr n0 L ∧ h = h0
theorem d3_0 : decode jdk_30_method_1_code 0 = .ok (.aload_n 0, 1) := by decide +kernel
theorem d3_1 : decode jdk_30_method_1_code 1 = .ok (.invokespecial 1, 3) := by decide +kernel
theorem d3_4 : decode jdk_30_method_1_code 4 = .ok (.return_, 1) := by decide +kernel
set_option maxRecDepth 65536 in
set_option maxHeartbeats 40000000 in
theorem rm_rec (l : Launch) (Z : State) (a0 : Array Value) (hw : ∀ d ∈ tables_1, d.before a0 Z = true) (ws : List Jvm.Cond) (a1 : Addr) (h0 : Heap) (n0 : Nat) (Z0 : n0 ≤ h0.size)  :
    MetFree l (⟨"java/lang/Record", "<init>", "()V"⟩ : MethodName) (head1 (Jvm.Cond.code (⟨"java/lang/Record", "<init>", "()V"⟩ : MethodName) jdk_30_method_1_code 1 none :: ws) ({ frames := 1, cells := 0, slots := 0, locals := 12 } : Room)) (fun a U => a = #[(.ref a1)] ∧ Z.Warmed39 U.vm ∧ U.heap = h0) (fun _ _ _ _ _ => True) (fun _ U o U' => ∃ v L, o = .returned v ∧ Q_rm_rec Z a1 h0 n0 v U'.heap L ∧ FrameEnd U o U' L ({ frames := 1, cells := 0, slots := 0, locals := 12 } : Room).cells ({ frames := 1, cells := 0, slots := 0, locals := 12 } : Room).slots) := by
  refine MetFree.of_bodySF (plainFor_of_name pn_3) hisR ?_
  intro p e s m args below meth c s₁ Bd hml0 hP hK
  obtain ⟨rfl, hZ, hh⟩ := hP
  have hx := Bd.exec
  have hby := Bd.bytes
  have hml : c.maxLocals = 1 := hml0
  have hown : s.vm.findClass "java/lang/Record" = some m.cls := findClass_of_methodNamed Bd.named
  have hnm := (name_of_methodNamed Bd.named Bd.method).1
  have X0 : Stand p l e ({ frames := 1, cells := 0, slots := 0, locals := 12 } : Room) s m #[(.ref a1)] below meth c s₁ [] 0 0 := Stand.of_body Bd
  have e0 : s₁.heap = h0 := by rw [← hh, Bd.state]; rfl
  have N0 := Fr.nil n0
  have pre0 : ∀ t, Steps p.tables e below (s₁.setTop (mkF m 0 #[.val (.ref a1)] [])) t → Steps p.tables e below (s₁.setTop (entryFrame m #[(.ref a1)] 1)) t := fun t kt => castTop (ef_rm_rec m a1) kt
  obtain ⟨T1, X1, e1, st1⟩ := initO X0 hx hZ hown (hw _ (List.mem_of_getElem? (i := 18) rfl)) (hw _ (List.mem_of_getElem? (i := 19) rfl)) (hw _ (List.mem_of_getElem? (i := 20) rfl)) e0 (g := (mkF m 1 #[.val (.ref a1)] [(.ref a1)])) rfl (by rw [hml]; rfl) rfl (hb hby d3_1) (by decide) (W := 0) (by show 2 * 0 + _ ≤ _; exact Nat.le_of_eq rfl) (by decide)
  obtain ⟨fs, hr, hrun, hended, hW, hsame⟩ := X1.leave (v := none) (fun _ => rfl) (hlocks := Bd.notSynchronized)
  refine ⟨_, _, pre0 _ ?_, hrun, hended, _, _, rfl, ?_, ⟨_, rfl⟩, hW, hsame.mono (by decide) (by decide)⟩
  · show Steps p.tables e below (s₁.setTop (mkF m 0 #[.val (.ref a1)] [])) _
    refine XS.aloadN X0.here hx rfl (hb hby d3_0) rfl rfl ?_
    show Steps p.tables e below (s₁.setTop (mkF m 1 #[.val (.ref a1)] [(.ref a1)])) _
    refine st1 _ ?_
    show Steps p.tables e below (T1.setTop (mkF m 4 #[.val (.ref a1)] [])) _
    exact X1.returnOut hx Bd.returns (hb hby d3_4) hr
  · show Q_rm_rec Z a1 h0 n0 _ T1.heap _
    rw [e1]
    exact ⟨rfl, N0, rfl⟩
theorem pn_2 : plainName "com/example/poolwright/poolwright/PoolReport$Space" = true := by first | (simp [plainName, overriddenIn]; done) | decide +kernel
theorem ef_rm_si (m : MethodId) (x0 : Addr) (x1 : Int64) (x2 : Int64) (x3 : Int64) (x4 : UInt64) (x5 : UInt64) (x6 : Int64) : entryFrame m #[(.ref x0), (.long x1), (.long x2), (.long x3), (.double x4), (.double x5), (.long x6)] 13 = mkF m 0 #[.val (.ref x0), .val (.long x1), .second, .val (.long x2), .second, .val (.long x3), .second, .val (.double x4), .second, .val (.double x5), .second, .val (.long x6), .second] [] := by first | (simp [entryFrame, mkF, argsToLocals, Value.category]; done) | rfl
def Q_rm_si (Z : State) (a1 : Addr) (q2 : Int64) (q3 : Int64) (q4 : Int64) (d5 : UInt64) (d6 : UInt64) (q7 : Int64) (h0 : Heap) (n0 : Nat) (v : Option Value) (h : Heap) (L : List Loc) : Prop := v = none ∧ Fr n0 L ∧ Keep h0 h [a1] ∧ Exa Z h a1 "com/example/poolwright/poolwright/PoolReport$Space" ∧ Fld Z h a1 "com/example/poolwright/poolwright/PoolReport$Space" "free" "J" (.long q3) ∧ Fld Z h a1 "com/example/poolwright/poolwright/PoolReport$Space" "removable" "J" (.long q4)
theorem d2_0 : decode prog_37_method_1_code 0 = .ok (.aload_n 0, 1) := by decide +kernel
theorem pd___V_167 : parseMethodDescriptor "()V" = some ⟨[], none⟩ := by decide +kernel
theorem d2_1 : decode prog_37_method_1_code 1 = .ok (.invokespecial 1, 3) := by decide +kernel
theorem d2_4 : decode prog_37_method_1_code 4 = .ok (.aload_n 0, 1) := by decide +kernel
theorem d2_5 : decode prog_37_method_1_code 5 = .ok (.lload_n 1, 1) := by decide +kernel
theorem d2_6 : decode prog_37_method_1_code 6 = .ok (.putfield 7, 3) := by decide +kernel
theorem d2_9 : decode prog_37_method_1_code 9 = .ok (.aload_n 0, 1) := by decide +kernel
theorem d2_10 : decode prog_37_method_1_code 10 = .ok (.lload_n 3, 1) := by decide +kernel
theorem d2_11 : decode prog_37_method_1_code 11 = .ok (.putfield 13, 3) := by decide +kernel
theorem d2_14 : decode prog_37_method_1_code 14 = .ok (.aload_n 0, 1) := by decide +kernel
theorem d2_15 : decode prog_37_method_1_code 15 = .ok (.lload 5, 2) := by decide +kernel
theorem d2_17 : decode prog_37_method_1_code 17 = .ok (.putfield 16, 3) := by decide +kernel
theorem d2_20 : decode prog_37_method_1_code 20 = .ok (.aload_n 0, 1) := by decide +kernel
theorem d2_21 : decode prog_37_method_1_code 21 = .ok (.dload 7, 2) := by decide +kernel
theorem d2_23 : decode prog_37_method_1_code 23 = .ok (.putfield 19, 3) := by decide +kernel
theorem d2_26 : decode prog_37_method_1_code 26 = .ok (.aload_n 0, 1) := by decide +kernel
theorem d2_27 : decode prog_37_method_1_code 27 = .ok (.dload 9, 2) := by decide +kernel
theorem d2_29 : decode prog_37_method_1_code 29 = .ok (.putfield 23, 3) := by decide +kernel
theorem d2_32 : decode prog_37_method_1_code 32 = .ok (.aload_n 0, 1) := by decide +kernel
theorem d2_33 : decode prog_37_method_1_code 33 = .ok (.lload 11, 2) := by decide +kernel
theorem d2_35 : decode prog_37_method_1_code 35 = .ok (.putfield 26, 3) := by decide +kernel
theorem d2_38 : decode prog_37_method_1_code 38 = .ok (.return_, 1) := by decide +kernel
set_option maxRecDepth 65536 in
set_option maxHeartbeats 40000000 in
theorem rm_si (l : Launch) (Z : State) (a0 : Array Value) (hw : ∀ d ∈ tables_1, d.before a0 Z = true) (ws : List Jvm.Cond) (a1 : Addr) (q2 : Int64) (q3 : Int64) (q4 : Int64) (d5 : UInt64) (d6 : UInt64) (q7 : Int64) (h0 : Heap) (n0 : Nat) (Z0 : n0 ≤ h0.size) (F_total_a1 : Fld Z h0 a1 "com/example/poolwright/poolwright/PoolReport$Space" "total" "J" (.long (0 : Int64))) (F_free_a1 : Fld Z h0 a1 "com/example/poolwright/poolwright/PoolReport$Space" "free" "J" (.long (0 : Int64))) (F_removable_a1 : Fld Z h0 a1 "com/example/poolwright/poolwright/PoolReport$Space" "removable" "J" (.long (0 : Int64))) (F_breakeven_a1 : Fld Z h0 a1 "com/example/poolwright/poolwright/PoolReport$Space" "breakeven" "D" (.double (0 : UInt64))) (F_lruSeconds_a1 : Fld Z h0 a1 "com/example/poolwright/poolwright/PoolReport$Space" "lruSeconds" "D" (.double (0 : UInt64))) (F_gap_a1 : Fld Z h0 a1 "com/example/poolwright/poolwright/PoolReport$Space" "gap" "J" (.long (0 : Int64))) (E_a1 : Exa Z h0 a1 "com/example/poolwright/poolwright/PoolReport$Space") (g_a1 : n0 ≤ a1) :
    MetFree l (⟨"com/example/poolwright/poolwright/PoolReport$Space", "<init>", "(JJJDDJ)V"⟩ : MethodName) (head1 (Jvm.Cond.code (⟨"com/example/poolwright/poolwright/PoolReport$Space", "<init>", "(JJJDDJ)V"⟩ : MethodName) prog_37_method_1_code 13 none :: ws) ({ frames := 2, cells := 0, slots := 0, locals := 24 } : Room)) (fun a U => a = #[(.ref a1), (.long q2), (.long q3), (.long q4), (.double d5), (.double d6), (.long q7)] ∧ Z.Warmed39 U.vm ∧ U.heap = h0) (fun _ _ _ _ _ => True) (fun _ U o U' => ∃ v L, o = .returned v ∧ Q_rm_si Z a1 q2 q3 q4 d5 d6 q7 h0 n0 v U'.heap L ∧ FrameEnd U o U' L ({ frames := 2, cells := 0, slots := 0, locals := 24 } : Room).cells ({ frames := 2, cells := 0, slots := 0, locals := 24 } : Room).slots) := by
  refine MetFree.of_bodySF (plainFor_of_name pn_2) hisR ?_
  intro p e s m args below meth c s₁ Bd hml0 hP hK
  obtain ⟨rfl, hZ, hh⟩ := hP
  have hx := Bd.exec
  have hby := Bd.bytes
  have hml : c.maxLocals = 13 := hml0
  have hown : s.vm.findClass "com/example/poolwright/poolwright/PoolReport$Space" = some m.cls := findClass_of_methodNamed Bd.named
  have hnm := (name_of_methodNamed Bd.named Bd.method).1
  have X0 : Stand p l e ({ frames := 2, cells := 0, slots := 0, locals := 24 } : Room) s m #[(.ref a1), (.long q2), (.long q3), (.long q4), (.double d5), (.double d6), (.long q7)] below meth c s₁ [] 0 0 := Stand.of_body Bd
  have e0 : s₁.heap = h0 := by rw [← hh, Bd.state]; rfl
  have N0 := Fr.nil n0
  have pre0 : ∀ t, Steps p.tables e below (s₁.setTop (mkF m 0 #[.val (.ref a1), .val (.long q2), .second, .val (.long q3), .second, .val (.long q4), .second, .val (.double d5), .second, .val (.double d6), .second, .val (.long q7), .second] [])) t → Steps p.tables e below (s₁.setTop (entryFrame m #[(.ref a1), (.long q2), (.long q3), (.long q4), (.double d5), (.double d6), (.long q7)] 13)) t := fun t kt => castTop (ef_rm_si m a1 q2 q3 q4 d5 d6 q7) kt
  obtain ⟨_, _, ⟨T1, L1, k1, n1⟩, -, X1, ⟨Lc1, hQ1, l1, y1, z1⟩, st1⟩ := X0.specialBack hx (y := (⟨"java/lang/Record", "<init>", "()V"⟩ : MethodName)) rfl hown (mvT hZ (hw _ (List.mem_of_getElem? (i := 13) rfl))) (mvT hZ (hw _ (List.mem_of_getElem? (i := 14) rfl))) (mvT hZ (hw _ (List.mem_of_getElem? (i := 17) rfl))) (by decide) (backOf (W := 0) (rm_rec l Z a0 hw [] a1 h0 n0 Z0 ) hZ (hw _ (List.mem_of_getElem? (i := 17) rfl)) (hw _ (List.mem_of_getElem? (i := 16) rfl)) (by decide) (by decide)) (g := (mkF m 1 #[.val (.ref a1), .val (.long q2), .second, .val (.long q3), .second, .val (.long q4), .second, .val (.double d5), .second, .val (.double d6), .second, .val (.long q7), .second] [(.ref a1)])) rfl (by rw [hml]; rfl) (Steps.refl _) (a := a1) (argsL := []) (rest := []) (lenOf pd___V_167 rfl) rfl (by show 2 * 0 + _ ≤ _; exact Nat.le_of_eq rfl) (hb hby d2_1) (fun _ _ => ⟨rfl, e0, (by decide : 0 + 0 ≤ _), (by decide : 0 + 0 ≤ _)⟩)
  dsimp only [Pt.U, Pt.locs, Pt.cells, Pt.slots] at X1 l1 y1 z1 st1 hQ1
  subst l1 y1 z1
  obtain ⟨rfl, N1q, e1⟩ := hQ1
  have N1 := Fr.app N0 N1q
  obtain ⟨T2, h2, X2, e2, W2, st2⟩ := putF X1 hx hZ hown (host := "") (Or.inl (hw _ (List.mem_of_getElem? (i := 21) rfl))) Via.refl e1 F_total_a1 E_a1 (Or.inr ⟨(hw _ (List.mem_of_getElem? (i := 22) rfl)), rfl, hnm⟩) (hw _ (List.mem_of_getElem? (i := 6) rfl)) (ty := .long) (by decide) rfl rfl (g := (mkF m 6 #[.val (.ref a1), .val (.long q2), .second, .val (.long q3), .second, .val (.long q4), .second, .val (.double d5), .second, .val (.double d6), .second, .val (.long q7), .second] [(.long q2), (.ref a1)])) rfl rfl (hb hby d2_6)
  have f1 : Exa Z h2 a1 "com/example/poolwright/poolwright/PoolReport$Space" := E_a1.wr W2
  have f2 : Fld Z h2 a1 "com/example/poolwright/poolwright/PoolReport$Space" "total" "J" (.long q2) := F_total_a1.same W2
  have f3 : Fld Z h2 a1 "com/example/poolwright/poolwright/PoolReport$Space" "free" "J" (.long (0 : Int64)) := F_free_a1.other W2 (Or.inr (slot_ne (Or.inr (hw _ (List.mem_of_getElem? (i := 24) rfl))) (Or.inr (hw _ (List.mem_of_getElem? (i := 22) rfl))) (by decide) (t := .long) (t' := .long) (by decide) (by decide)))
  have f4 : Fld Z h2 a1 "com/example/poolwright/poolwright/PoolReport$Space" "removable" "J" (.long (0 : Int64)) := F_removable_a1.other W2 (Or.inr (slot_ne (Or.inr (hw _ (List.mem_of_getElem? (i := 26) rfl))) (Or.inr (hw _ (List.mem_of_getElem? (i := 22) rfl))) (by decide) (t := .long) (t' := .long) (by decide) (by decide)))
  have f5 : Fld Z h2 a1 "com/example/poolwright/poolwright/PoolReport$Space" "breakeven" "D" (.double (0 : UInt64)) := F_breakeven_a1.other W2 (Or.inr (slot_ne (Or.inr (hw _ (List.mem_of_getElem? (i := 28) rfl))) (Or.inr (hw _ (List.mem_of_getElem? (i := 22) rfl))) (by decide) (t := .double) (t' := .long) (by decide) (by decide)))
  have f6 : Fld Z h2 a1 "com/example/poolwright/poolwright/PoolReport$Space" "lruSeconds" "D" (.double (0 : UInt64)) := F_lruSeconds_a1.other W2 (Or.inr (slot_ne (Or.inr (hw _ (List.mem_of_getElem? (i := 30) rfl))) (Or.inr (hw _ (List.mem_of_getElem? (i := 22) rfl))) (by decide) (t := .double) (t' := .long) (by decide) (by decide)))
  have f7 : Fld Z h2 a1 "com/example/poolwright/poolwright/PoolReport$Space" "gap" "J" (.long (0 : Int64)) := F_gap_a1.other W2 (Or.inr (slot_ne (Or.inr (hw _ (List.mem_of_getElem? (i := 32) rfl))) (Or.inr (hw _ (List.mem_of_getElem? (i := 22) rfl))) (by decide) (t := .long) (t' := .long) (by decide) (by decide)))
  have f8 : n0 ≤ a1 := g_a1
  have f9 : Keep h0 h2 [a1] := (Keep.refl h0 [a1]).wr W2 (Or.inl (by simp))
  have N2 := Fr.snoc X2 N1 f8
  have Z2 : n0 ≤ h2.size := by rw [W2.size]; exact Z0
  obtain ⟨T3, h3, X3, e3, W3, st3⟩ := putF X2 hx hZ hown (host := "") (Or.inl (hw _ (List.mem_of_getElem? (i := 23) rfl))) Via.refl e2 f3 f1 (Or.inr ⟨(hw _ (List.mem_of_getElem? (i := 24) rfl)), rfl, hnm⟩) (hw _ (List.mem_of_getElem? (i := 6) rfl)) (ty := .long) (by decide) rfl rfl (g := (mkF m 11 #[.val (.ref a1), .val (.long q2), .second, .val (.long q3), .second, .val (.long q4), .second, .val (.double d5), .second, .val (.double d6), .second, .val (.long q7), .second] [(.long q3), (.ref a1)])) rfl rfl (hb hby d2_11)
  have f10 : Exa Z h3 a1 "com/example/poolwright/poolwright/PoolReport$Space" := f1.wr W3
  have f11 : Fld Z h3 a1 "com/example/poolwright/poolwright/PoolReport$Space" "total" "J" (.long q2) := f2.other W3 (Or.inr (slot_ne (Or.inr (hw _ (List.mem_of_getElem? (i := 22) rfl))) (Or.inr (hw _ (List.mem_of_getElem? (i := 24) rfl))) (by decide) (t := .long) (t' := .long) (by decide) (by decide)))
  have f12 : Fld Z h3 a1 "com/example/poolwright/poolwright/PoolReport$Space" "free" "J" (.long q3) := f3.same W3
  have f13 : Fld Z h3 a1 "com/example/poolwright/poolwright/PoolReport$Space" "removable" "J" (.long (0 : Int64)) := f4.other W3 (Or.inr (slot_ne (Or.inr (hw _ (List.mem_of_getElem? (i := 26) rfl))) (Or.inr (hw _ (List.mem_of_getElem? (i := 24) rfl))) (by decide) (t := .long) (t' := .long) (by decide) (by decide)))
  have f14 : Fld Z h3 a1 "com/example/poolwright/poolwright/PoolReport$Space" "breakeven" "D" (.double (0 : UInt64)) := f5.other W3 (Or.inr (slot_ne (Or.inr (hw _ (List.mem_of_getElem? (i := 28) rfl))) (Or.inr (hw _ (List.mem_of_getElem? (i := 24) rfl))) (by decide) (t := .double) (t' := .long) (by decide) (by decide)))
  have f15 : Fld Z h3 a1 "com/example/poolwright/poolwright/PoolReport$Space" "lruSeconds" "D" (.double (0 : UInt64)) := f6.other W3 (Or.inr (slot_ne (Or.inr (hw _ (List.mem_of_getElem? (i := 30) rfl))) (Or.inr (hw _ (List.mem_of_getElem? (i := 24) rfl))) (by decide) (t := .double) (t' := .long) (by decide) (by decide)))
  have f16 : Fld Z h3 a1 "com/example/poolwright/poolwright/PoolReport$Space" "gap" "J" (.long (0 : Int64)) := f7.other W3 (Or.inr (slot_ne (Or.inr (hw _ (List.mem_of_getElem? (i := 32) rfl))) (Or.inr (hw _ (List.mem_of_getElem? (i := 24) rfl))) (by decide) (t := .long) (t' := .long) (by decide) (by decide)))
  have f17 : n0 ≤ a1 := f8
  have f18 : Keep h0 h3 [a1] := f9.wr W3 (Or.inl (by simp))
  have N3 := Fr.snoc X3 N2 f17
  have Z3 : n0 ≤ h3.size := by rw [W3.size]; exact Z2
  obtain ⟨T4, h4, X4, e4, W4, st4⟩ := putF X3 hx hZ hown (host := "") (Or.inl (hw _ (List.mem_of_getElem? (i := 25) rfl))) Via.refl e3 f13 f10 (Or.inr ⟨(hw _ (List.mem_of_getElem? (i := 26) rfl)), rfl, hnm⟩) (hw _ (List.mem_of_getElem? (i := 6) rfl)) (ty := .long) (by decide) rfl rfl (g := (mkF m 17 #[.val (.ref a1), .val (.long q2), .second, .val (.long q3), .second, .val (.long q4), .second, .val (.double d5), .second, .val (.double d6), .second, .val (.long q7), .second] [(.long q4), (.ref a1)])) rfl rfl (hb hby d2_17)
  have f19 : Exa Z h4 a1 "com/example/poolwright/poolwright/PoolReport$Space" := f10.wr W4
  have f20 : Fld Z h4 a1 "com/example/poolwright/poolwright/PoolReport$Space" "total" "J" (.long q2) := f11.other W4 (Or.inr (slot_ne (Or.inr (hw _ (List.mem_of_getElem? (i := 22) rfl))) (Or.inr (hw _ (List.mem_of_getElem? (i := 26) rfl))) (by decide) (t := .long) (t' := .long) (by decide) (by decide)))
  have f21 : Fld Z h4 a1 "com/example/poolwright/poolwright/PoolReport$Space" "free" "J" (.long q3) := f12.other W4 (Or.inr (slot_ne (Or.inr (hw _ (List.mem_of_getElem? (i := 24) rfl))) (Or.inr (hw _ (List.mem_of_getElem? (i := 26) rfl))) (by decide) (t := .long) (t' := .long) (by decide) (by decide)))
  have f22 : Fld Z h4 a1 "com/example/poolwright/poolwright/PoolReport$Space" "removable" "J" (.long q4) := f13.same W4
  have f23 : Fld Z h4 a1 "com/example/poolwright/poolwright/PoolReport$Space" "breakeven" "D" (.double (0 : UInt64)) := f14.other W4 (Or.inr (slot_ne (Or.inr (hw _ (List.mem_of_getElem? (i := 28) rfl))) (Or.inr (hw _ (List.mem_of_getElem? (i := 26) rfl))) (by decide) (t := .double) (t' := .long) (by decide) (by decide)))
  have f24 : Fld Z h4 a1 "com/example/poolwright/poolwright/PoolReport$Space" "lruSeconds" "D" (.double (0 : UInt64)) := f15.other W4 (Or.inr (slot_ne (Or.inr (hw _ (List.mem_of_getElem? (i := 30) rfl))) (Or.inr (hw _ (List.mem_of_getElem? (i := 26) rfl))) (by decide) (t := .double) (t' := .long) (by decide) (by decide)))
  have f25 : Fld Z h4 a1 "com/example/poolwright/poolwright/PoolReport$Space" "gap" "J" (.long (0 : Int64)) := f16.other W4 (Or.inr (slot_ne (Or.inr (hw _ (List.mem_of_getElem? (i := 32) rfl))) (Or.inr (hw _ (List.mem_of_getElem? (i := 26) rfl))) (by decide) (t := .long) (t' := .long) (by decide) (by decide)))
  have f26 : n0 ≤ a1 := f17
  have f27 : Keep h0 h4 [a1] := f18.wr W4 (Or.inl (by simp))
  have N4 := Fr.snoc X4 N3 f26
  have Z4 : n0 ≤ h4.size := by rw [W4.size]; exact Z3
  obtain ⟨T5, h5, X5, e5, W5, st5⟩ := putF X4 hx hZ hown (host := "") (Or.inl (hw _ (List.mem_of_getElem? (i := 27) rfl))) Via.refl e4 f23 f19 (Or.inr ⟨(hw _ (List.mem_of_getElem? (i := 28) rfl)), rfl, hnm⟩) (hw _ (List.mem_of_getElem? (i := 6) rfl)) (ty := .double) (by decide) rfl rfl (g := (mkF m 23 #[.val (.ref a1), .val (.long q2), .second, .val (.long q3), .second, .val (.long q4), .second, .val (.double d5), .second, .val (.double d6), .second, .val (.long q7), .second] [(.double d5), (.ref a1)])) rfl rfl (hb hby d2_23)
  have f28 : Exa Z h5 a1 "com/example/poolwright/poolwright/PoolReport$Space" := f19.wr W5
  have f29 : Fld Z h5 a1 "com/example/poolwright/poolwright/PoolReport$Space" "total" "J" (.long q2) := f20.other W5 (Or.inr (slot_ne (Or.inr (hw _ (List.mem_of_getElem? (i := 22) rfl))) (Or.inr (hw _ (List.mem_of_getElem? (i := 28) rfl))) (by decide) (t := .long) (t' := .double) (by decide) (by decide)))
  have f30 : Fld Z h5 a1 "com/example/poolwright/poolwright/PoolReport$Space" "free" "J" (.long q3) := f21.other W5 (Or.inr (slot_ne (Or.inr (hw _ (List.mem_of_getElem? (i := 24) rfl))) (Or.inr (hw _ (List.mem_of_getElem? (i := 28) rfl))) (by decide) (t := .long) (t' := .double) (by decide) (by decide)))
  have f31 : Fld Z h5 a1 "com/example/poolwright/poolwright/PoolReport$Space" "removable" "J" (.long q4) := f22.other W5 (Or.inr (slot_ne (Or.inr (hw _ (List.mem_of_getElem? (i := 26) rfl))) (Or.inr (hw _ (List.mem_of_getElem? (i := 28) rfl))) (by decide) (t := .long) (t' := .double) (by decide) (by decide)))
  have f32 : Fld Z h5 a1 "com/example/poolwright/poolwright/PoolReport$Space" "breakeven" "D" (.double d5) := f23.same W5
  have f33 : Fld Z h5 a1 "com/example/poolwright/poolwright/PoolReport$Space" "lruSeconds" "D" (.double (0 : UInt64)) := f24.other W5 (Or.inr (slot_ne (Or.inr (hw _ (List.mem_of_getElem? (i := 30) rfl))) (Or.inr (hw _ (List.mem_of_getElem? (i := 28) rfl))) (by decide) (t := .double) (t' := .double) (by decide) (by decide)))
  have f34 : Fld Z h5 a1 "com/example/poolwright/poolwright/PoolReport$Space" "gap" "J" (.long (0 : Int64)) := f25.other W5 (Or.inr (slot_ne (Or.inr (hw _ (List.mem_of_getElem? (i := 32) rfl))) (Or.inr (hw _ (List.mem_of_getElem? (i := 28) rfl))) (by decide) (t := .long) (t' := .double) (by decide) (by decide)))
  have f35 : n0 ≤ a1 := f26
  have f36 : Keep h0 h5 [a1] := f27.wr W5 (Or.inl (by simp))
  have N5 := Fr.snoc X5 N4 f35
  have Z5 : n0 ≤ h5.size := by rw [W5.size]; exact Z4
  obtain ⟨T6, h6, X6, e6, W6, st6⟩ := putF X5 hx hZ hown (host := "") (Or.inl (hw _ (List.mem_of_getElem? (i := 29) rfl))) Via.refl e5 f33 f28 (Or.inr ⟨(hw _ (List.mem_of_getElem? (i := 30) rfl)), rfl, hnm⟩) (hw _ (List.mem_of_getElem? (i := 6) rfl)) (ty := .double) (by decide) rfl rfl (g := (mkF m 29 #[.val (.ref a1), .val (.long q2), .second, .val (.long q3), .second, .val (.long q4), .second, .val (.double d5), .second, .val (.double d6), .second, .val (.long q7), .second] [(.double d6), (.ref a1)])) rfl rfl (hb hby d2_29)
  have f37 : Exa Z h6 a1 "com/example/poolwright/poolwright/PoolReport$Space" := f28.wr W6
  have f38 : Fld Z h6 a1 "com/example/poolwright/poolwright/PoolReport$Space" "total" "J" (.long q2) := f29.other W6 (Or.inr (slot_ne (Or.inr (hw _ (List.mem_of_getElem? (i := 22) rfl))) (Or.inr (hw _ (List.mem_of_getElem? (i := 30) rfl))) (by decide) (t := .long) (t' := .double) (by decide) (by decide)))
  have f39 : Fld Z h6 a1 "com/example/poolwright/poolwright/PoolReport$Space" "free" "J" (.long q3) := f30.other W6 (Or.inr (slot_ne (Or.inr (hw _ (List.mem_of_getElem? (i := 24) rfl))) (Or.inr (hw _ (List.mem_of_getElem? (i := 30) rfl))) (by decide) (t := .long) (t' := .double) (by decide) (by decide)))
  have f40 : Fld Z h6 a1 "com/example/poolwright/poolwright/PoolReport$Space" "removable" "J" (.long q4) := f31.other W6 (Or.inr (slot_ne (Or.inr (hw _ (List.mem_of_getElem? (i := 26) rfl))) (Or.inr (hw _ (List.mem_of_getElem? (i := 30) rfl))) (by decide) (t := .long) (t' := .double) (by decide) (by decide)))
  have f41 : Fld Z h6 a1 "com/example/poolwright/poolwright/PoolReport$Space" "breakeven" "D" (.double d5) := f32.other W6 (Or.inr (slot_ne (Or.inr (hw _ (List.mem_of_getElem? (i := 28) rfl))) (Or.inr (hw _ (List.mem_of_getElem? (i := 30) rfl))) (by decide) (t := .double) (t' := .double) (by decide) (by decide)))
  have f42 : Fld Z h6 a1 "com/example/poolwright/poolwright/PoolReport$Space" "lruSeconds" "D" (.double d6) := f33.same W6
  have f43 : Fld Z h6 a1 "com/example/poolwright/poolwright/PoolReport$Space" "gap" "J" (.long (0 : Int64)) := f34.other W6 (Or.inr (slot_ne (Or.inr (hw _ (List.mem_of_getElem? (i := 32) rfl))) (Or.inr (hw _ (List.mem_of_getElem? (i := 30) rfl))) (by decide) (t := .long) (t' := .double) (by decide) (by decide)))
  have f44 : n0 ≤ a1 := f35
  have f45 : Keep h0 h6 [a1] := f36.wr W6 (Or.inl (by simp))
  have N6 := Fr.snoc X6 N5 f44
  have Z6 : n0 ≤ h6.size := by rw [W6.size]; exact Z5
  obtain ⟨T7, h7, X7, e7, W7, st7⟩ := putF X6 hx hZ hown (host := "") (Or.inl (hw _ (List.mem_of_getElem? (i := 31) rfl))) Via.refl e6 f43 f37 (Or.inr ⟨(hw _ (List.mem_of_getElem? (i := 32) rfl)), rfl, hnm⟩) (hw _ (List.mem_of_getElem? (i := 6) rfl)) (ty := .long) (by decide) rfl rfl (g := (mkF m 35 #[.val (.ref a1), .val (.long q2), .second, .val (.long q3), .second, .val (.long q4), .second, .val (.double d5), .second, .val (.double d6), .second, .val (.long q7), .second] [(.long q7), (.ref a1)])) rfl rfl (hb hby d2_35)
  have f46 : Exa Z h7 a1 "com/example/poolwright/poolwright/PoolReport$Space" := f37.wr W7
  have f47 : Fld Z h7 a1 "com/example/poolwright/poolwright/PoolReport$Space" "total" "J" (.long q2) := f38.other W7 (Or.inr (slot_ne (Or.inr (hw _ (List.mem_of_getElem? (i := 22) rfl))) (Or.inr (hw _ (List.mem_of_getElem? (i := 32) rfl))) (by decide) (t := .long) (t' := .long) (by decide) (by decide)))
  have f48 : Fld Z h7 a1 "com/example/poolwright/poolwright/PoolReport$Space" "free" "J" (.long q3) := f39.other W7 (Or.inr (slot_ne (Or.inr (hw _ (List.mem_of_getElem? (i := 24) rfl))) (Or.inr (hw _ (List.mem_of_getElem? (i := 32) rfl))) (by decide) (t := .long) (t' := .long) (by decide) (by decide)))
  have f49 : Fld Z h7 a1 "com/example/poolwright/poolwright/PoolReport$Space" "removable" "J" (.long q4) := f40.other W7 (Or.inr (slot_ne (Or.inr (hw _ (List.mem_of_getElem? (i := 26) rfl))) (Or.inr (hw _ (List.mem_of_getElem? (i := 32) rfl))) (by decide) (t := .long) (t' := .long) (by decide) (by decide)))
  have f50 : Fld Z h7 a1 "com/example/poolwright/poolwright/PoolReport$Space" "breakeven" "D" (.double d5) := f41.other W7 (Or.inr (slot_ne (Or.inr (hw _ (List.mem_of_getElem? (i := 28) rfl))) (Or.inr (hw _ (List.mem_of_getElem? (i := 32) rfl))) (by decide) (t := .double) (t' := .long) (by decide) (by decide)))
  have f51 : Fld Z h7 a1 "com/example/poolwright/poolwright/PoolReport$Space" "lruSeconds" "D" (.double d6) := f42.other W7 (Or.inr (slot_ne (Or.inr (hw _ (List.mem_of_getElem? (i := 30) rfl))) (Or.inr (hw _ (List.mem_of_getElem? (i := 32) rfl))) (by decide) (t := .double) (t' := .long) (by decide) (by decide)))
  have f52 : Fld Z h7 a1 "com/example/poolwright/poolwright/PoolReport$Space" "gap" "J" (.long q7) := f43.same W7
  have f53 : n0 ≤ a1 := f44
  have f54 : Keep h0 h7 [a1] := f45.wr W7 (Or.inl (by simp))
  have N7 := Fr.snoc X7 N6 f53
  have Z7 : n0 ≤ h7.size := by rw [W7.size]; exact Z6
  obtain ⟨fs, hr, hrun, hended, hW, hsame⟩ := X7.leave (v := none) (fun _ => rfl) (hlocks := Bd.notSynchronized)
  refine ⟨_, _, pre0 _ ?_, hrun, hended, _, _, rfl, ?_, ⟨_, rfl⟩, hW, hsame.mono (by decide) (by decide)⟩
  · show Steps p.tables e below (s₁.setTop (mkF m 0 #[.val (.ref a1), .val (.long q2), .second, .val (.long q3), .second, .val (.long q4), .second, .val (.double d5), .second, .val (.double d6), .second, .val (.long q7), .second] [])) _
    refine XS.aloadN X0.here hx rfl (hb hby d2_0) rfl rfl ?_
    show Steps p.tables e below (s₁.setTop (mkF m 1 #[.val (.ref a1), .val (.long q2), .second, .val (.long q3), .second, .val (.long q4), .second, .val (.double d5), .second, .val (.double d6), .second, .val (.long q7), .second] [(.ref a1)])) _
    refine st1.trans ?_
    show Steps p.tables e below (T1.setTop (mkF m 4 #[.val (.ref a1), .val (.long q2), .second, .val (.long q3), .second, .val (.long q4), .second, .val (.double d5), .second, .val (.double d6), .second, .val (.long q7), .second] [])) _
    refine XS.aloadN X1.here hx rfl (hb hby d2_4) rfl rfl ?_
    show Steps p.tables e below (T1.setTop (mkF m 5 #[.val (.ref a1), .val (.long q2), .second, .val (.long q3), .second, .val (.long q4), .second, .val (.double d5), .second, .val (.double d6), .second, .val (.long q7), .second] [(.ref a1)])) _
    refine XS.lloadN X1.here hx rfl (hb hby d2_5) rfl ?_
    show Steps p.tables e below (T1.setTop (mkF m 6 #[.val (.ref a1), .val (.long q2), .second, .val (.long q3), .second, .val (.long q4), .second, .val (.double d5), .second, .val (.double d6), .second, .val (.long q7), .second] [(.long q2), (.ref a1)])) _
    refine st2 _ ?_
    show Steps p.tables e below (T2.setTop (mkF m 9 #[.val (.ref a1), .val (.long q2), .second, .val (.long q3), .second, .val (.long q4), .second, .val (.double d5), .second, .val (.double d6), .second, .val (.long q7), .second] [])) _
    refine XS.aloadN X2.here hx rfl (hb hby d2_9) rfl rfl ?_
    show Steps p.tables e below (T2.setTop (mkF m 10 #[.val (.ref a1), .val (.long q2), .second, .val (.long q3), .second, .val (.long q4), .second, .val (.double d5), .second, .val (.double d6), .second, .val (.long q7), .second] [(.ref a1)])) _
    refine XS.lloadN X2.here hx rfl (hb hby d2_10) rfl ?_
    show Steps p.tables e below (T2.setTop (mkF m 11 #[.val (.ref a1), .val (.long q2), .second, .val (.long q3), .second, .val (.long q4), .second, .val (.double d5), .second, .val (.double d6), .second, .val (.long q7), .second] [(.long q3), (.ref a1)])) _
    refine st3 _ ?_
    show Steps p.tables e below (T3.setTop (mkF m 14 #[.val (.ref a1), .val (.long q2), .second, .val (.long q3), .second, .val (.long q4), .second, .val (.double d5), .second, .val (.double d6), .second, .val (.long q7), .second] [])) _
    refine XS.aloadN X3.here hx rfl (hb hby d2_14) rfl rfl ?_
    show Steps p.tables e below (T3.setTop (mkF m 15 #[.val (.ref a1), .val (.long q2), .second, .val (.long q3), .second, .val (.long q4), .second, .val (.double d5), .second, .val (.double d6), .second, .val (.long q7), .second] [(.ref a1)])) _
    refine XS.lload X3.here hx rfl (hb hby d2_15) rfl ?_
    show Steps p.tables e below (T3.setTop (mkF m 17 #[.val (.ref a1), .val (.long q2), .second, .val (.long q3), .second, .val (.long q4), .second, .val (.double d5), .second, .val (.double d6), .second, .val (.long q7), .second] [(.long q4), (.ref a1)])) _
    refine st4 _ ?_
    show Steps p.tables e below (T4.setTop (mkF m 20 #[.val (.ref a1), .val (.long q2), .second, .val (.long q3), .second, .val (.long q4), .second, .val (.double d5), .second, .val (.double d6), .second, .val (.long q7), .second] [])) _
    refine XS.aloadN X4.here hx rfl (hb hby d2_20) rfl rfl ?_
    show Steps p.tables e below (T4.setTop (mkF m 21 #[.val (.ref a1), .val (.long q2), .second, .val (.long q3), .second, .val (.long q4), .second, .val (.double d5), .second, .val (.double d6), .second, .val (.long q7), .second] [(.ref a1)])) _
    refine XS.dload X4.here hx rfl (hb hby d2_21) rfl ?_
    show Steps p.tables e below (T4.setTop (mkF m 23 #[.val (.ref a1), .val (.long q2), .second, .val (.long q3), .second, .val (.long q4), .second, .val (.double d5), .second, .val (.double d6), .second, .val (.long q7), .second] [(.double d5), (.ref a1)])) _
    refine st5 _ ?_
    show Steps p.tables e below (T5.setTop (mkF m 26 #[.val (.ref a1), .val (.long q2), .second, .val (.long q3), .second, .val (.long q4), .second, .val (.double d5), .second, .val (.double d6), .second, .val (.long q7), .second] [])) _
    refine XS.aloadN X5.here hx rfl (hb hby d2_26) rfl rfl ?_
    show Steps p.tables e below (T5.setTop (mkF m 27 #[.val (.ref a1), .val (.long q2), .second, .val (.long q3), .second, .val (.long q4), .second, .val (.double d5), .second, .val (.double d6), .second, .val (.long q7), .second] [(.ref a1)])) _
    refine XS.dload X5.here hx rfl (hb hby d2_27) rfl ?_
    show Steps p.tables e below (T5.setTop (mkF m 29 #[.val (.ref a1), .val (.long q2), .second, .val (.long q3), .second, .val (.long q4), .second, .val (.double d5), .second, .val (.double d6), .second, .val (.long q7), .second] [(.double d6), (.ref a1)])) _
    refine st6 _ ?_
    show Steps p.tables e below (T6.setTop (mkF m 32 #[.val (.ref a1), .val (.long q2), .second, .val (.long q3), .second, .val (.long q4), .second, .val (.double d5), .second, .val (.double d6), .second, .val (.long q7), .second] [])) _
    refine XS.aloadN X6.here hx rfl (hb hby d2_32) rfl rfl ?_
    show Steps p.tables e below (T6.setTop (mkF m 33 #[.val (.ref a1), .val (.long q2), .second, .val (.long q3), .second, .val (.long q4), .second, .val (.double d5), .second, .val (.double d6), .second, .val (.long q7), .second] [(.ref a1)])) _
    refine XS.lload X6.here hx rfl (hb hby d2_33) rfl ?_
    show Steps p.tables e below (T6.setTop (mkF m 35 #[.val (.ref a1), .val (.long q2), .second, .val (.long q3), .second, .val (.long q4), .second, .val (.double d5), .second, .val (.double d6), .second, .val (.long q7), .second] [(.long q7), (.ref a1)])) _
    refine st7 _ ?_
    show Steps p.tables e below (T7.setTop (mkF m 38 #[.val (.ref a1), .val (.long q2), .second, .val (.long q3), .second, .val (.long q4), .second, .val (.double d5), .second, .val (.double d6), .second, .val (.long q7), .second] [])) _
    exact X7.returnOut hx Bd.returns (hb hby d2_38) hr
  · show Q_rm_si Z a1 q2 q3 q4 d5 d6 q7 h0 n0 _ T7.heap _
    rw [e7]
    exact ⟨rfl, N7, f54, f46, f48, f49⟩
theorem pn_5 : plainName "com/example/poolwright/poolwright/PoolReport" = true := by first | (simp [plainName, overriddenIn]; done) | decide +kernel
theorem ef_rm_pi (m : MethodId) (x0 : Addr) (x1 : Addr) (x2 : Addr) (x4 : Addr) : entryFrame m #[(.ref x0), (.ref x1), (.ref x2), .null, (.ref x4), .null] 6 = mkF m 0 #[.val (.ref x0), .val (.ref x1), .val (.ref x2), .val .null, .val (.ref x4), .val .null] [] := by first | (simp [entryFrame, mkF, argsToLocals, Value.category]; done) | rfl
def Q_rm_pi (Z : State) (a1 : Addr) (a2 : Addr) (a3 : Addr) (a5 : Addr) (h0 : Heap) (n0 : Nat) (v : Option Value) (h : Heap) (L : List Loc) : Prop := v = none ∧ Fr n0 L ∧ Keep h0 h [a1] ∧ Exa Z h a1 "com/example/poolwright/poolwright/PoolReport" ∧ Fld Z h a1 "com/example/poolwright/poolwright/PoolReport" "space" "Lcom/example/poolwright/poolwright/PoolReport$Space;" (.ref a5)
theorem d5_0 : decode prog_34_method_1_code 0 = .ok (.aload_n 0, 1) := by decide +kernel
theorem d5_1 : decode prog_34_method_1_code 1 = .ok (.invokespecial 1, 3) := by decide +kernel
theorem d5_4 : decode prog_34_method_1_code 4 = .ok (.aload_n 0, 1) := by decide +kernel
theorem d5_5 : decode prog_34_method_1_code 5 = .ok (.aload_n 1, 1) := by decide +kernel
theorem d5_6 : decode prog_34_method_1_code 6 = .ok (.putfield 7, 3) := by decide +kernel
theorem d5_9 : decode prog_34_method_1_code 9 = .ok (.aload_n 0, 1) := by decide +kernel
theorem d5_10 : decode prog_34_method_1_code 10 = .ok (.aload_n 2, 1) := by decide +kernel
theorem d5_11 : decode prog_34_method_1_code 11 = .ok (.putfield 13, 3) := by decide +kernel
theorem d5_14 : decode prog_34_method_1_code 14 = .ok (.aload_n 0, 1) := by decide +kernel
theorem d5_15 : decode prog_34_method_1_code 15 = .ok (.aload_n 3, 1) := by decide +kernel
theorem d5_16 : decode prog_34_method_1_code 16 = .ok (.putfield 16, 3) := by decide +kernel
theorem d5_19 : decode prog_34_method_1_code 19 = .ok (.aload_n 0, 1) := by decide +kernel
theorem d5_20 : decode prog_34_method_1_code 20 = .ok (.aload 4, 2) := by decide +kernel
theorem d5_22 : decode prog_34_method_1_code 22 = .ok (.putfield 20, 3) := by decide +kernel
theorem d5_25 : decode prog_34_method_1_code 25 = .ok (.aload_n 0, 1) := by decide +kernel
theorem d5_26 : decode prog_34_method_1_code 26 = .ok (.aload 5, 2) := by decide +kernel
theorem d5_28 : decode prog_34_method_1_code 28 = .ok (.putfield 24, 3) := by decide +kernel
theorem d5_31 : decode prog_34_method_1_code 31 = .ok (.return_, 1) := by decide +kernel
set_option maxRecDepth 65536 in
set_option maxHeartbeats 40000000 in
theorem rm_pi (l : Launch) (Z : State) (a0 : Array Value) (hw : ∀ d ∈ tables_1, d.before a0 Z = true) (ws : List Jvm.Cond) (a1 : Addr) (a2 : Addr) (a3 : Addr) (a5 : Addr) (h0 : Heap) (n0 : Nat) (Z0 : n0 ≤ h0.size) (F_pool_a1 : Fld Z h0 a1 "com/example/poolwright/poolwright/PoolReport" "pool" "Ljava/lang/String;" .null) (F_host_a1 : Fld Z h0 a1 "com/example/poolwright/poolwright/PoolReport" "host" "Ljava/lang/String;" .null) (F_movers_a1 : Fld Z h0 a1 "com/example/poolwright/poolwright/PoolReport" "movers" "Ljava/util/Map;" .null) (F_space_a1 : Fld Z h0 a1 "com/example/poolwright/poolwright/PoolReport" "space" "Lcom/example/poolwright/poolwright/PoolReport$Space;" .null) (F_mode_a1 : Fld Z h0 a1 "com/example/poolwright/poolwright/PoolReport" "mode" "Ljava/util/Set;" .null) (E_a1 : Exa Z h0 a1 "com/example/poolwright/poolwright/PoolReport") (g_a1 : n0 ≤ a1) :
    MetFree l (⟨"com/example/poolwright/poolwright/PoolReport", "<init>", "(Ljava/lang/String;Ljava/lang/String;Ljava/util/Map;Lcom/example/poolwright/poolwright/PoolReport$Space;Ljava/util/Set;)V"⟩ : MethodName) (head1 (Jvm.Cond.code (⟨"com/example/poolwright/poolwright/PoolReport", "<init>", "(Ljava/lang/String;Ljava/lang/String;Ljava/util/Map;Lcom/example/poolwright/poolwright/PoolReport$Space;Ljava/util/Set;)V"⟩ : MethodName) prog_34_method_1_code 6 none :: ws) ({ frames := 2, cells := 0, slots := 0, locals := 24 } : Room)) (fun a U => a = #[(.ref a1), (.ref a2), (.ref a3), .null, (.ref a5), .null] ∧ Z.Warmed39 U.vm ∧ U.heap = h0) (fun _ _ _ _ _ => True) (fun _ U o U' => ∃ v L, o = .returned v ∧ Q_rm_pi Z a1 a2 a3 a5 h0 n0 v U'.heap L ∧ FrameEnd U o U' L ({ frames := 2, cells := 0, slots := 0, locals := 24 } : Room).cells ({ frames := 2, cells := 0, slots := 0, locals := 24 } : Room).slots) := by
  refine MetFree.of_bodySF (plainFor_of_name pn_5) hisR ?_
  intro p e s m args below meth c s₁ Bd hml0 hP hK
  obtain ⟨rfl, hZ, hh⟩ := hP
  have hx := Bd.exec
  have hby := Bd.bytes
  have hml : c.maxLocals = 6 := hml0
  have hown : s.vm.findClass "com/example/poolwright/poolwright/PoolReport" = some m.cls := findClass_of_methodNamed Bd.named
  have hnm := (name_of_methodNamed Bd.named Bd.method).1
  have X0 : Stand p l e ({ frames := 2, cells := 0, slots := 0, locals := 24 } : Room) s m #[(.ref a1), (.ref a2), (.ref a3), .null, (.ref a5), .null] below meth c s₁ [] 0 0 := Stand.of_body Bd
  have e0 : s₁.heap = h0 := by rw [← hh, Bd.state]; rfl
  have N0 := Fr.nil n0
  have pre0 : ∀ t, Steps p.tables e below (s₁.setTop (mkF m 0 #[.val (.ref a1), .val (.ref a2), .val (.ref a3), .val .null, .val (.ref a5), .val .null] [])) t → Steps p.tables e below (s₁.setTop (entryFrame m #[(.ref a1), (.ref a2), (.ref a3), .null, (.ref a5), .null] 6)) t := fun t kt => castTop (ef_rm_pi m a1 a2 a3 a5) kt
  obtain ⟨_, _, ⟨T1, L1, k1, n1⟩, -, X1, ⟨Lc1, hQ1, l1, y1, z1⟩, st1⟩ := X0.specialBack hx (y := (⟨"java/lang/Record", "<init>", "()V"⟩ : MethodName)) rfl hown (mvT hZ (hw _ (List.mem_of_getElem? (i := 48) rfl))) (mvT hZ (hw _ (List.mem_of_getElem? (i := 14) rfl))) (mvT hZ (hw _ (List.mem_of_getElem? (i := 17) rfl))) (by decide) (backOf (W := 0) (rm_rec l Z a0 hw [] a1 h0 n0 Z0 ) hZ (hw _ (List.mem_of_getElem? (i := 17) rfl)) (hw _ (List.mem_of_getElem? (i := 16) rfl)) (by decide) (by decide)) (g := (mkF m 1 #[.val (.ref a1), .val (.ref a2), .val (.ref a3), .val .null, .val (.ref a5), .val .null] [(.ref a1)])) rfl (by rw [hml]; rfl) (Steps.refl _) (a := a1) (argsL := []) (rest := []) (lenOf pd___V_167 rfl) rfl (by show 2 * 0 + _ ≤ _; exact Nat.le_of_eq rfl) (hb hby d5_1) (fun _ _ => ⟨rfl, e0, (by decide : 0 + 0 ≤ _), (by decide : 0 + 0 ≤ _)⟩)
  dsimp only [Pt.U, Pt.locs, Pt.cells, Pt.slots] at X1 l1 y1 z1 st1 hQ1
  subst l1 y1 z1
  obtain ⟨rfl, N1q, e1⟩ := hQ1
  have N1 := Fr.app N0 N1q
  obtain ⟨T2, h2, X2, e2, W2, st2⟩ := putF X1 hx hZ hown (host := "") (Or.inl (hw _ (List.mem_of_getElem? (i := 49) rfl))) Via.refl e1 F_pool_a1 E_a1 (Or.inr ⟨(hw _ (List.mem_of_getElem? (i := 50) rfl)), rfl, hnm⟩) (hw _ (List.mem_of_getElem? (i := 34) rfl)) (ty := (.object "java/lang/String")) (by decide) rfl rfl (g := (mkF m 6 #[.val (.ref a1), .val (.ref a2), .val (.ref a3), .val .null, .val (.ref a5), .val .null] [(.ref a2), (.ref a1)])) rfl rfl (hb hby d5_6)
  have f1 : Exa Z h2 a1 "com/example/poolwright/poolwright/PoolReport" := E_a1.wr W2
  have f2 : Fld Z h2 a1 "com/example/poolwright/poolwright/PoolReport" "pool" "Ljava/lang/String;" (.ref a2) := F_pool_a1.same W2
  have f3 : Fld Z h2 a1 "com/example/poolwright/poolwright/PoolReport" "host" "Ljava/lang/String;" .null := F_host_a1.other W2 (Or.inr (slot_ne (Or.inr (hw _ (List.mem_of_getElem? (i := 52) rfl))) (Or.inr (hw _ (List.mem_of_getElem? (i := 50) rfl))) (by decide) (t := (.object "java/lang/String")) (t' := (.object "java/lang/String")) (by decide) (by decide)))
  have f4 : Fld Z h2 a1 "com/example/poolwright/poolwright/PoolReport" "movers" "Ljava/util/Map;" .null := F_movers_a1.other W2 (Or.inr (slot_ne (Or.inr (hw _ (List.mem_of_getElem? (i := 54) rfl))) (Or.inr (hw _ (List.mem_of_getElem? (i := 50) rfl))) (by decide) (t := (.object "java/util/Map")) (t' := (.object "java/lang/String")) (by decide) (by decide)))
  have f5 : Fld Z h2 a1 "com/example/poolwright/poolwright/PoolReport" "space" "Lcom/example/poolwright/poolwright/PoolReport$Space;" .null := F_space_a1.other W2 (Or.inr (slot_ne (Or.inr (hw _ (List.mem_of_getElem? (i := 56) rfl))) (Or.inr (hw _ (List.mem_of_getElem? (i := 50) rfl))) (by decide) (t := (.object "com/example/poolwright/poolwright/PoolReport$Space")) (t' := (.object "java/lang/String")) (by decide) (by decide)))
  have f6 : Fld Z h2 a1 "com/example/poolwright/poolwright/PoolReport" "mode" "Ljava/util/Set;" .null := F_mode_a1.other W2 (Or.inr (slot_ne (Or.inr (hw _ (List.mem_of_getElem? (i := 58) rfl))) (Or.inr (hw _ (List.mem_of_getElem? (i := 50) rfl))) (by decide) (t := (.object "java/util/Set")) (t' := (.object "java/lang/String")) (by decide) (by decide)))
  have f7 : n0 ≤ a1 := g_a1
  have f8 : Keep h0 h2 [a1] := (Keep.refl h0 [a1]).wr W2 (Or.inl (by simp))
  have N2 := Fr.snoc X2 N1 f7
  have Z2 : n0 ≤ h2.size := by rw [W2.size]; exact Z0
  obtain ⟨T3, h3, X3, e3, W3, st3⟩ := putF X2 hx hZ hown (host := "") (Or.inl (hw _ (List.mem_of_getElem? (i := 51) rfl))) Via.refl e2 f3 f1 (Or.inr ⟨(hw _ (List.mem_of_getElem? (i := 52) rfl)), rfl, hnm⟩) (hw _ (List.mem_of_getElem? (i := 34) rfl)) (ty := (.object "java/lang/String")) (by decide) rfl rfl (g := (mkF m 11 #[.val (.ref a1), .val (.ref a2), .val (.ref a3), .val .null, .val (.ref a5), .val .null] [(.ref a3), (.ref a1)])) rfl rfl (hb hby d5_11)
  have f9 : Exa Z h3 a1 "com/example/poolwright/poolwright/PoolReport" := f1.wr W3
  have f10 : Fld Z h3 a1 "com/example/poolwright/poolwright/PoolReport" "pool" "Ljava/lang/String;" (.ref a2) := f2.other W3 (Or.inr (slot_ne (Or.inr (hw _ (List.mem_of_getElem? (i := 50) rfl))) (Or.inr (hw _ (List.mem_of_getElem? (i := 52) rfl))) (by decide) (t := (.object "java/lang/String")) (t' := (.object "java/lang/String")) (by decide) (by decide)))
  have f11 : Fld Z h3 a1 "com/example/poolwright/poolwright/PoolReport" "host" "Ljava/lang/String;" (.ref a3) := f3.same W3
  have f12 : Fld Z h3 a1 "com/example/poolwright/poolwright/PoolReport" "movers" "Ljava/util/Map;" .null := f4.other W3 (Or.inr (slot_ne (Or.inr (hw _ (List.mem_of_getElem? (i := 54) rfl))) (Or.inr (hw _ (List.mem_of_getElem? (i := 52) rfl))) (by decide) (t := (.object "java/util/Map")) (t' := (.object "java/lang/String")) (by decide) (by decide)))
  have f13 : Fld Z h3 a1 "com/example/poolwright/poolwright/PoolReport" "space" "Lcom/example/poolwright/poolwright/PoolReport$Space;" .null := f5.other W3 (Or.inr (slot_ne (Or.inr (hw _ (List.mem_of_getElem? (i := 56) rfl))) (Or.inr (hw _ (List.mem_of_getElem? (i := 52) rfl))) (by decide) (t := (.object "com/example/poolwright/poolwright/PoolReport$Space")) (t' := (.object "java/lang/String")) (by decide) (by decide)))
  have f14 : Fld Z h3 a1 "com/example/poolwright/poolwright/PoolReport" "mode" "Ljava/util/Set;" .null := f6.other W3 (Or.inr (slot_ne (Or.inr (hw _ (List.mem_of_getElem? (i := 58) rfl))) (Or.inr (hw _ (List.mem_of_getElem? (i := 52) rfl))) (by decide) (t := (.object "java/util/Set")) (t' := (.object "java/lang/String")) (by decide) (by decide)))
  have f15 : n0 ≤ a1 := f7
  have f16 : Keep h0 h3 [a1] := f8.wr W3 (Or.inl (by simp))
  have N3 := Fr.snoc X3 N2 f15
  have Z3 : n0 ≤ h3.size := by rw [W3.size]; exact Z2
  obtain ⟨T4, h4, X4, e4, W4, st4⟩ := putF X3 hx hZ hown (host := "") (Or.inl (hw _ (List.mem_of_getElem? (i := 53) rfl))) Via.refl e3 f12 f9 (Or.inr ⟨(hw _ (List.mem_of_getElem? (i := 54) rfl)), rfl, hnm⟩) (hw _ (List.mem_of_getElem? (i := 34) rfl)) (ty := (.object "java/util/Map")) (by decide) rfl rfl (g := (mkF m 16 #[.val (.ref a1), .val (.ref a2), .val (.ref a3), .val .null, .val (.ref a5), .val .null] [.null, (.ref a1)])) rfl rfl (hb hby d5_16)
  have f17 : Exa Z h4 a1 "com/example/poolwright/poolwright/PoolReport" := f9.wr W4
  have f18 : Fld Z h4 a1 "com/example/poolwright/poolwright/PoolReport" "pool" "Ljava/lang/String;" (.ref a2) := f10.other W4 (Or.inr (slot_ne (Or.inr (hw _ (List.mem_of_getElem? (i := 50) rfl))) (Or.inr (hw _ (List.mem_of_getElem? (i := 54) rfl))) (by decide) (t := (.object "java/lang/String")) (t' := (.object "java/util/Map")) (by decide) (by decide)))
  have f19 : Fld Z h4 a1 "com/example/poolwright/poolwright/PoolReport" "host" "Ljava/lang/String;" (.ref a3) := f11.other W4 (Or.inr (slot_ne (Or.inr (hw _ (List.mem_of_getElem? (i := 52) rfl))) (Or.inr (hw _ (List.mem_of_getElem? (i := 54) rfl))) (by decide) (t := (.object "java/lang/String")) (t' := (.object "java/util/Map")) (by decide) (by decide)))
  have f20 : Fld Z h4 a1 "com/example/poolwright/poolwright/PoolReport" "movers" "Ljava/util/Map;" .null := f12.same W4
  have f21 : Fld Z h4 a1 "com/example/poolwright/poolwright/PoolReport" "space" "Lcom/example/poolwright/poolwright/PoolReport$Space;" .null := f13.other W4 (Or.inr (slot_ne (Or.inr (hw _ (List.mem_of_getElem? (i := 56) rfl))) (Or.inr (hw _ (List.mem_of_getElem? (i := 54) rfl))) (by decide) (t := (.object "com/example/poolwright/poolwright/PoolReport$Space")) (t' := (.object "java/util/Map")) (by decide) (by decide)))
  have f22 : Fld Z h4 a1 "com/example/poolwright/poolwright/PoolReport" "mode" "Ljava/util/Set;" .null := f14.other W4 (Or.inr (slot_ne (Or.inr (hw _ (List.mem_of_getElem? (i := 58) rfl))) (Or.inr (hw _ (List.mem_of_getElem? (i := 54) rfl))) (by decide) (t := (.object "java/util/Set")) (t' := (.object "java/util/Map")) (by decide) (by decide)))
  have f23 : n0 ≤ a1 := f15
  have f24 : Keep h0 h4 [a1] := f16.wr W4 (Or.inl (by simp))
  have N4 := Fr.snoc X4 N3 f23
  have Z4 : n0 ≤ h4.size := by rw [W4.size]; exact Z3
  obtain ⟨T5, h5, X5, e5, W5, st5⟩ := putF X4 hx hZ hown (host := "") (Or.inl (hw _ (List.mem_of_getElem? (i := 55) rfl))) Via.refl e4 f21 f17 (Or.inr ⟨(hw _ (List.mem_of_getElem? (i := 56) rfl)), rfl, hnm⟩) (hw _ (List.mem_of_getElem? (i := 34) rfl)) (ty := (.object "com/example/poolwright/poolwright/PoolReport$Space")) (by decide) rfl rfl (g := (mkF m 22 #[.val (.ref a1), .val (.ref a2), .val (.ref a3), .val .null, .val (.ref a5), .val .null] [(.ref a5), (.ref a1)])) rfl rfl (hb hby d5_22)
  have f25 : Exa Z h5 a1 "com/example/poolwright/poolwright/PoolReport" := f17.wr W5
  have f26 : Fld Z h5 a1 "com/example/poolwright/poolwright/PoolReport" "pool" "Ljava/lang/String;" (.ref a2) := f18.other W5 (Or.inr (slot_ne (Or.inr (hw _ (List.mem_of_getElem? (i := 50) rfl))) (Or.inr (hw _ (List.mem_of_getElem? (i := 56) rfl))) (by decide) (t := (.object "java/lang/String")) (t' := (.object "com/example/poolwright/poolwright/PoolReport$Space")) (by decide) (by decide)))
  have f27 : Fld Z h5 a1 "com/example/poolwright/poolwright/PoolReport" "host" "Ljava/lang/String;" (.ref a3) := f19.other W5 (Or.inr (slot_ne (Or.inr (hw _ (List.mem_of_getElem? (i := 52) rfl))) (Or.inr (hw _ (List.mem_of_getElem? (i := 56) rfl))) (by decide) (t := (.object "java/lang/String")) (t' := (.object "com/example/poolwright/poolwright/PoolReport$Space")) (by decide) (by decide)))
  have f28 : Fld Z h5 a1 "com/example/poolwright/poolwright/PoolReport" "movers" "Ljava/util/Map;" .null := f20.other W5 (Or.inr (slot_ne (Or.inr (hw _ (List.mem_of_getElem? (i := 54) rfl))) (Or.inr (hw _ (List.mem_of_getElem? (i := 56) rfl))) (by decide) (t := (.object "java/util/Map")) (t' := (.object "com/example/poolwright/poolwright/PoolReport$Space")) (by decide) (by decide)))
  have f29 : Fld Z h5 a1 "com/example/poolwright/poolwright/PoolReport" "space" "Lcom/example/poolwright/poolwright/PoolReport$Space;" (.ref a5) := f21.same W5
  have f30 : Fld Z h5 a1 "com/example/poolwright/poolwright/PoolReport" "mode" "Ljava/util/Set;" .null := f22.other W5 (Or.inr (slot_ne (Or.inr (hw _ (List.mem_of_getElem? (i := 58) rfl))) (Or.inr (hw _ (List.mem_of_getElem? (i := 56) rfl))) (by decide) (t := (.object "java/util/Set")) (t' := (.object "com/example/poolwright/poolwright/PoolReport$Space")) (by decide) (by decide)))
  have f31 : n0 ≤ a1 := f23
  have f32 : Keep h0 h5 [a1] := f24.wr W5 (Or.inl (by simp))
  have N5 := Fr.snoc X5 N4 f31
  have Z5 : n0 ≤ h5.size := by rw [W5.size]; exact Z4
  obtain ⟨T6, h6, X6, e6, W6, st6⟩ := putF X5 hx hZ hown (host := "") (Or.inl (hw _ (List.mem_of_getElem? (i := 57) rfl))) Via.refl e5 f30 f25 (Or.inr ⟨(hw _ (List.mem_of_getElem? (i := 58) rfl)), rfl, hnm⟩) (hw _ (List.mem_of_getElem? (i := 34) rfl)) (ty := (.object "java/util/Set")) (by decide) rfl rfl (g := (mkF m 28 #[.val (.ref a1), .val (.ref a2), .val (.ref a3), .val .null, .val (.ref a5), .val .null] [.null, (.ref a1)])) rfl rfl (hb hby d5_28)
  have f33 : Exa Z h6 a1 "com/example/poolwright/poolwright/PoolReport" := f25.wr W6
  have f34 : Fld Z h6 a1 "com/example/poolwright/poolwright/PoolReport" "pool" "Ljava/lang/String;" (.ref a2) := f26.other W6 (Or.inr (slot_ne (Or.inr (hw _ (List.mem_of_getElem? (i := 50) rfl))) (Or.inr (hw _ (List.mem_of_getElem? (i := 58) rfl))) (by decide) (t := (.object "java/lang/String")) (t' := (.object "java/util/Set")) (by decide) (by decide)))
  have f35 : Fld Z h6 a1 "com/example/poolwright/poolwright/PoolReport" "host" "Ljava/lang/String;" (.ref a3) := f27.other W6 (Or.inr (slot_ne (Or.inr (hw _ (List.mem_of_getElem? (i := 52) rfl))) (Or.inr (hw _ (List.mem_of_getElem? (i := 58) rfl))) (by decide) (t := (.object "java/lang/String")) (t' := (.object "java/util/Set")) (by decide) (by decide)))
  have f36 : Fld Z h6 a1 "com/example/poolwright/poolwright/PoolReport" "movers" "Ljava/util/Map;" .null := f28.other W6 (Or.inr (slot_ne (Or.inr (hw _ (List.mem_of_getElem? (i := 54) rfl))) (Or.inr (hw _ (List.mem_of_getElem? (i := 58) rfl))) (by decide) (t := (.object "java/util/Map")) (t' := (.object "java/util/Set")) (by decide) (by decide)))
  have f37 : Fld Z h6 a1 "com/example/poolwright/poolwright/PoolReport" "space" "Lcom/example/poolwright/poolwright/PoolReport$Space;" (.ref a5) := f29.other W6 (Or.inr (slot_ne (Or.inr (hw _ (List.mem_of_getElem? (i := 56) rfl))) (Or.inr (hw _ (List.mem_of_getElem? (i := 58) rfl))) (by decide) (t := (.object "com/example/poolwright/poolwright/PoolReport$Space")) (t' := (.object "java/util/Set")) (by decide) (by decide)))
  have f38 : Fld Z h6 a1 "com/example/poolwright/poolwright/PoolReport" "mode" "Ljava/util/Set;" .null := f30.same W6
  have f39 : n0 ≤ a1 := f31
  have f40 : Keep h0 h6 [a1] := f32.wr W6 (Or.inl (by simp))
  have N6 := Fr.snoc X6 N5 f39
  have Z6 : n0 ≤ h6.size := by rw [W6.size]; exact Z5
  obtain ⟨fs, hr, hrun, hended, hW, hsame⟩ := X6.leave (v := none) (fun _ => rfl) (hlocks := Bd.notSynchronized)
  refine ⟨_, _, pre0 _ ?_, hrun, hended, _, _, rfl, ?_, ⟨_, rfl⟩, hW, hsame.mono (by decide) (by decide)⟩
  · show Steps p.tables e below (s₁.setTop (mkF m 0 #[.val (.ref a1), .val (.ref a2), .val (.ref a3), .val .null, .val (.ref a5), .val .null] [])) _
    refine XS.aloadN X0.here hx rfl (hb hby d5_0) rfl rfl ?_
    show Steps p.tables e below (s₁.setTop (mkF m 1 #[.val (.ref a1), .val (.ref a2), .val (.ref a3), .val .null, .val (.ref a5), .val .null] [(.ref a1)])) _
    refine st1.trans ?_
    show Steps p.tables e below (T1.setTop (mkF m 4 #[.val (.ref a1), .val (.ref a2), .val (.ref a3), .val .null, .val (.ref a5), .val .null] [])) _
    refine XS.aloadN X1.here hx rfl (hb hby d5_4) rfl rfl ?_
    show Steps p.tables e below (T1.setTop (mkF m 5 #[.val (.ref a1), .val (.ref a2), .val (.ref a3), .val .null, .val (.ref a5), .val .null] [(.ref a1)])) _
    refine XS.aloadN X1.here hx rfl (hb hby d5_5) rfl rfl ?_
    show Steps p.tables e below (T1.setTop (mkF m 6 #[.val (.ref a1), .val (.ref a2), .val (.ref a3), .val .null, .val (.ref a5), .val .null] [(.ref a2), (.ref a1)])) _
    refine st2 _ ?_
    show Steps p.tables e below (T2.setTop (mkF m 9 #[.val (.ref a1), .val (.ref a2), .val (.ref a3), .val .null, .val (.ref a5), .val .null] [])) _
    refine XS.aloadN X2.here hx rfl (hb hby d5_9) rfl rfl ?_
    show Steps p.tables e below (T2.setTop (mkF m 10 #[.val (.ref a1), .val (.ref a2), .val (.ref a3), .val .null, .val (.ref a5), .val .null] [(.ref a1)])) _
    refine XS.aloadN X2.here hx rfl (hb hby d5_10) rfl rfl ?_
    show Steps p.tables e below (T2.setTop (mkF m 11 #[.val (.ref a1), .val (.ref a2), .val (.ref a3), .val .null, .val (.ref a5), .val .null] [(.ref a3), (.ref a1)])) _
    refine st3 _ ?_
    show Steps p.tables e below (T3.setTop (mkF m 14 #[.val (.ref a1), .val (.ref a2), .val (.ref a3), .val .null, .val (.ref a5), .val .null] [])) _
    refine XS.aloadN X3.here hx rfl (hb hby d5_14) rfl rfl ?_
    show Steps p.tables e below (T3.setTop (mkF m 15 #[.val (.ref a1), .val (.ref a2), .val (.ref a3), .val .null, .val (.ref a5), .val .null] [(.ref a1)])) _
    refine XS.aloadN X3.here hx rfl (hb hby d5_15) rfl rfl ?_
    show Steps p.tables e below (T3.setTop (mkF m 16 #[.val (.ref a1), .val (.ref a2), .val (.ref a3), .val .null, .val (.ref a5), .val .null] [.null, (.ref a1)])) _
    refine st4 _ ?_
    show Steps p.tables e below (T4.setTop (mkF m 19 #[.val (.ref a1), .val (.ref a2), .val (.ref a3), .val .null, .val (.ref a5), .val .null] [])) _
    refine XS.aloadN X4.here hx rfl (hb hby d5_19) rfl rfl ?_
    show Steps p.tables e below (T4.setTop (mkF m 20 #[.val (.ref a1), .val (.ref a2), .val (.ref a3), .val .null, .val (.ref a5), .val .null] [(.ref a1)])) _
    refine XS.aload X4.here hx rfl (hb hby d5_20) rfl rfl ?_
    show Steps p.tables e below (T4.setTop (mkF m 22 #[.val (.ref a1), .val (.ref a2), .val (.ref a3), .val .null, .val (.ref a5), .val .null] [(.ref a5), (.ref a1)])) _
    refine st5 _ ?_
    show Steps p.tables e below (T5.setTop (mkF m 25 #[.val (.ref a1), .val (.ref a2), .val (.ref a3), .val .null, .val (.ref a5), .val .null] [])) _
    refine XS.aloadN X5.here hx rfl (hb hby d5_25) rfl rfl ?_
    show Steps p.tables e below (T5.setTop (mkF m 26 #[.val (.ref a1), .val (.ref a2), .val (.ref a3), .val .null, .val (.ref a5), .val .null] [(.ref a1)])) _
    refine XS.aload X5.here hx rfl (hb hby d5_26) rfl rfl ?_
    show Steps p.tables e below (T5.setTop (mkF m 28 #[.val (.ref a1), .val (.ref a2), .val (.ref a3), .val .null, .val (.ref a5), .val .null] [.null, (.ref a1)])) _
    refine st6 _ ?_
    show Steps p.tables e below (T6.setTop (mkF m 31 #[.val (.ref a1), .val (.ref a2), .val (.ref a3), .val .null, .val (.ref a5), .val .null] [])) _
    exact X6.returnOut hx Bd.returns (hb hby d5_31) hr
  · show Q_rm_pi Z a1 a2 a3 a5 h0 n0 _ T6.heap _
    rw [e6]
    exact ⟨rfl, N6, f40, f33, f37⟩
theorem pn_7 : plainName "com/example/poolwright/poolwright/PoolReport$Space" = true := by first | (simp [plainName, overriddenIn]; done) | decide +kernel
theorem ef_rm_fr (m : MethodId) (x0 : Addr) : entryFrame m #[(.ref x0)] 1 = mkF m 0 #[.val (.ref x0)] [] := by first | (simp [entryFrame, mkF, argsToLocals, Value.category]; done) | rfl
def Q_rm_fr (Z : State) (a1 : Addr) (w1 : Int64) (h0 : Heap) (n0 : Nat) (v : Option Value) (h : Heap) (L : List Loc) : Prop := v = some (.long w1) ∧ Fr n0 L ∧ h = h0
theorem d7_0 : decode prog_37_method_7_code 0 = .ok (.aload_n 0, 1) := by decide +kernel
theorem d7_1 : decode prog_37_method_7_code 1 = .ok (.getfield 13, 3) := by decide +kernel
theorem d7_4 : decode prog_37_method_7_code 4 = .ok (.lreturn, 1) := by decide +kernel
set_option maxRecDepth 65536 in
set_option maxHeartbeats 40000000 in
theorem rm_fr (l : Launch) (Z : State) (a0 : Array Value) (hw : ∀ d ∈ tables_1, d.before a0 Z = true) (ws : List Jvm.Cond) (a1 : Addr) (w1 : Int64) (h0 : Heap) (n0 : Nat) (Z0 : n0 ≤ h0.size) (F_free_a1 : Fld Z h0 a1 "com/example/poolwright/poolwright/PoolReport$Space" "free" "J" (.long w1)) :
    MetFree l (⟨"com/example/poolwright/poolwright/PoolReport$Space", "free", "()J"⟩ : MethodName) (head1 (Jvm.Cond.code (⟨"com/example/poolwright/poolwright/PoolReport$Space", "free", "()J"⟩ : MethodName) prog_37_method_7_code 1 (some .long) :: ws) ({ frames := 0, cells := 0, slots := 0, locals := 0 } : Room)) (fun a U => a = #[(.ref a1)] ∧ Z.Warmed39 U.vm ∧ U.heap = h0) (fun _ _ _ _ _ => True) (fun _ U o U' => ∃ v L, o = .returned v ∧ Q_rm_fr Z a1 w1 h0 n0 v U'.heap L ∧ FrameEnd U o U' L ({ frames := 0, cells := 0, slots := 0, locals := 0 } : Room).cells ({ frames := 0, cells := 0, slots := 0, locals := 0 } : Room).slots) := by
  refine MetFree.of_bodySF (plainFor_of_name pn_7) hisR ?_
  intro p e s m args below meth c s₁ Bd hml0 hP hK
  obtain ⟨rfl, hZ, hh⟩ := hP
  have hx := Bd.exec
  have hby := Bd.bytes
  have hml : c.maxLocals = 1 := hml0
  have hown : s.vm.findClass "com/example/poolwright/poolwright/PoolReport$Space" = some m.cls := findClass_of_methodNamed Bd.named
  have hnm := (name_of_methodNamed Bd.named Bd.method).1
  have X0 : Stand p l e ({ frames := 0, cells := 0, slots := 0, locals := 0 } : Room) s m #[(.ref a1)] below meth c s₁ [] 0 0 := Stand.of_body Bd
  have e0 : s₁.heap = h0 := by rw [← hh, Bd.state]; rfl
  have N0 := Fr.nil n0
  have pre0 : ∀ t, Steps p.tables e below (s₁.setTop (mkF m 0 #[.val (.ref a1)] [])) t → Steps p.tables e below (s₁.setTop (entryFrame m #[(.ref a1)] 1)) t := fun t kt => castTop (ef_rm_fr m a1) kt
  obtain ⟨T1, X1, e1, st1⟩ := getF X0 hx hZ hown (host := "") (Or.inl (hw _ (List.mem_of_getElem? (i := 23) rfl))) Via.refl e0 F_free_a1 (g := (mkF m 1 #[.val (.ref a1)] [(.ref a1)])) rfl rfl (hb hby d7_1)
  obtain ⟨fs, hr, hrun, hended, hW, hsame⟩ := X1.leave (v := some (.long w1)) (fun h => by rw [Bd.returns] at h; cases h) (hlocks := Bd.notSynchronized)
  refine ⟨_, _, pre0 _ ?_, hrun, hended, _, _, rfl, ?_, ⟨_, rfl⟩, hW, hsame.mono (by decide) (by decide)⟩
  · show Steps p.tables e below (s₁.setTop (mkF m 0 #[.val (.ref a1)] [])) _
    refine XS.aloadN X0.here hx rfl (hb hby d7_0) rfl rfl ?_
    show Steps p.tables e below (s₁.setTop (mkF m 1 #[.val (.ref a1)] [(.ref a1)])) _
    refine st1 _ ?_
    show Steps p.tables e below (T1.setTop (mkF m 4 #[.val (.ref a1)] [(.long w1)])) _
    exact X1.lreturnOut hx Bd.returns (hb hby d7_4) hr
  · show Q_rm_fr Z a1 w1 h0 n0 _ T1.heap _
    rw [e1]
    exact ⟨rfl, N0, rfl⟩
theorem pn_8 : plainName "com/example/poolwright/poolwright/PoolReport$Space" = true := by first | (simp [plainName, overriddenIn]; done) | decide +kernel
theorem ef_rm_re (m : MethodId) (x0 : Addr) : entryFrame m #[(.ref x0)] 1 = mkF m 0 #[.val (.ref x0)] [] := by first | (simp [entryFrame, mkF, argsToLocals, Value.category]; done) | rfl
def Q_rm_re (Z : State) (a1 : Addr) (w1 : Int64) (h0 : Heap) (n0 : Nat) (v : Option Value) (h : Heap) (L : List Loc) : Prop := v = some (.long w1) ∧ Fr n0 L ∧ h = h0
theorem d8_0 : decode prog_37_method_8_code 0 = .ok (.aload_n 0, 1) := by decide +kernel
theorem d8_1 : decode prog_37_method_8_code 1 = .ok (.getfield 16, 3) := by decide +kernel
theorem d8_4 : decode prog_37_method_8_code 4 = .ok (.lreturn, 1) := by decide +kernel
set_option maxRecDepth 65536 in
set_option maxHeartbeats 40000000 in
theorem rm_re (l : Launch) (Z : State) (a0 : Array Value) (hw : ∀ d ∈ tables_1, d.before a0 Z = true) (ws : List Jvm.Cond) (a1 : Addr) (w1 : Int64) (h0 : Heap) (n0 : Nat) (Z0 : n0 ≤ h0.size) (F_removable_a1 : Fld Z h0 a1 "com/example/poolwright/poolwright/PoolReport$Space" "removable" "J" (.long w1)) :
    MetFree l (⟨"com/example/poolwright/poolwright/PoolReport$Space", "removable", "()J"⟩ : MethodName) (head1 (Jvm.Cond.code (⟨"com/example/poolwright/poolwright/PoolReport$Space", "removable", "()J"⟩ : MethodName) prog_37_method_8_code 1 (some .long) :: ws) ({ frames := 0, cells := 0, slots := 0, locals := 0 } : Room)) (fun a U => a = #[(.ref a1)] ∧ Z.Warmed39 U.vm ∧ U.heap = h0) (fun _ _ _ _ _ => True) (fun _ U o U' => ∃ v L, o = .returned v ∧ Q_rm_re Z a1 w1 h0 n0 v U'.heap L ∧ FrameEnd U o U' L ({ frames := 0, cells := 0, slots := 0, locals := 0 } : Room).cells ({ frames := 0, cells := 0, slots := 0, locals := 0 } : Room).slots) := by
  refine MetFree.of_bodySF (plainFor_of_name pn_8) hisR ?_
  intro p e s m args below meth c s₁ Bd hml0 hP hK
  obtain ⟨rfl, hZ, hh⟩ := hP
  have hx := Bd.exec
  have hby := Bd.bytes
  have hml : c.maxLocals = 1 := hml0
  have hown : s.vm.findClass "com/example/poolwright/poolwright/PoolReport$Space" = some m.cls := findClass_of_methodNamed Bd.named
  have hnm := (name_of_methodNamed Bd.named Bd.method).1
  have X0 : Stand p l e ({ frames := 0, cells := 0, slots := 0, locals := 0 } : Room) s m #[(.ref a1)] below meth c s₁ [] 0 0 := Stand.of_body Bd
  have e0 : s₁.heap = h0 := by rw [← hh, Bd.state]; rfl
  have N0 := Fr.nil n0
  have pre0 : ∀ t, Steps p.tables e below (s₁.setTop (mkF m 0 #[.val (.ref a1)] [])) t → Steps p.tables e below (s₁.setTop (entryFrame m #[(.ref a1)] 1)) t := fun t kt => castTop (ef_rm_re m a1) kt
  obtain ⟨T1, X1, e1, st1⟩ := getF X0 hx hZ hown (host := "") (Or.inl (hw _ (List.mem_of_getElem? (i := 25) rfl))) Via.refl e0 F_removable_a1 (g := (mkF m 1 #[.val (.ref a1)] [(.ref a1)])) rfl rfl (hb hby d8_1)
  obtain ⟨fs, hr, hrun, hended, hW, hsame⟩ := X1.leave (v := some (.long w1)) (fun h => by rw [Bd.returns] at h; cases h) (hlocks := Bd.notSynchronized)
  refine ⟨_, _, pre0 _ ?_, hrun, hended, _, _, rfl, ?_, ⟨_, rfl⟩, hW, hsame.mono (by decide) (by decide)⟩
  · show Steps p.tables e below (s₁.setTop (mkF m 0 #[.val (.ref a1)] [])) _
    refine XS.aloadN X0.here hx rfl (hb hby d8_0) rfl rfl ?_
    show Steps p.tables e below (s₁.setTop (mkF m 1 #[.val (.ref a1)] [(.ref a1)])) _
    refine st1 _ ?_
    show Steps p.tables e below (T1.setTop (mkF m 4 #[.val (.ref a1)] [(.long w1)])) _
    exact X1.lreturnOut hx Bd.returns (hb hby d8_4) hr
  · show Q_rm_re Z a1 w1 h0 n0 _ T1.heap _
    rw [e1]
    exact ⟨rfl, N0, rfl⟩
theorem pn_6 : plainName "com/example/poolwright/poolwright/PoolReport" = true := by first | (simp [plainName, overriddenIn]; done) | decide +kernel
theorem ef_rm_fi (m : MethodId) (x0 : Addr) (x1 : Int64) : entryFrame m #[(.ref x0), (.long x1)] 3 = mkF m 0 #[.val (.ref x0), .val (.long x1), .second] [] := by first | (simp [entryFrame, mkF, argsToLocals, Value.category]; done) | rfl
def Q_rm_fi (Z : State) (a1 : Addr) (q2 : Int64) (sp : Addr) (f r : Int64) (h0 : Heap) (n0 : Nat) (v : Option Value) (h : Heap) (L : List Loc) : Prop := v = some (.int (own_fit f r q2)) ∧ Fr n0 L ∧ h = h0
theorem d6_0 : decode prog_34_method_8_code 0 = .ok (.aload_n 0, 1) := by decide +kernel
theorem d6_1 : decode prog_34_method_8_code 1 = .ok (.getfield 20, 3) := by decide +kernel
theorem pd___J_155 : parseMethodDescriptor "()J" = some ⟨[], some .long⟩ := by decide +kernel
theorem d6_4 : decode prog_34_method_8_code 4 = .ok (.invokevirtual 148, 3) := by decide +kernel
theorem d6_7 : decode prog_34_method_8_code 7 = .ok (.lload_n 1, 1) := by decide +kernel
theorem d6_8 : decode prog_34_method_8_code 8 = .ok (.aload_n 0, 1) := by decide +kernel
theorem d6_9 : decode prog_34_method_8_code 9 = .ok (.getfield 20, 3) := by decide +kernel
theorem d6_12 : decode prog_34_method_8_code 12 = .ok (.invokevirtual 166, 3) := by decide +kernel
theorem d6_15 : decode prog_34_method_8_code 15 = .ok (.lsub, 1) := by decide +kernel
theorem d6_16 : decode prog_34_method_8_code 16 = .ok (.lcmp, 1) := by decide +kernel
theorem d6_17 : decode prog_34_method_8_code 17 = .ok (.ifCond .lt 7, 3) := by decide +kernel
theorem d6_24 : decode prog_34_method_8_code 24 = .ok (.iconst 0, 1) := by decide +kernel
theorem d6_25 : decode prog_34_method_8_code 25 = .ok (.ireturn, 1) := by decide +kernel
theorem d6_20 : decode prog_34_method_8_code 20 = .ok (.iconst 1, 1) := by decide +kernel
theorem d6_21 : decode prog_34_method_8_code 21 = .ok (.goto 4, 3) := by decide +kernel
set_option maxRecDepth 65536 in
set_option maxHeartbeats 40000000 in
theorem rm_fi (l : Launch) (Z : State) (a0 : Array Value) (hw : ∀ d ∈ tables_1, d.before a0 Z = true) (ws : List Jvm.Cond) (a1 : Addr) (q2 : Int64) (sp : Addr) (f r : Int64) (h0 : Heap) (n0 : Nat) (Z0 : n0 ≤ h0.size) (F_space_a1 : Fld Z h0 a1 "com/example/poolwright/poolwright/PoolReport" "space" "Lcom/example/poolwright/poolwright/PoolReport$Space;" (.ref sp)) (E_sp : Exa Z h0 sp "com/example/poolwright/poolwright/PoolReport$Space") (F_free_sp : Fld Z h0 sp "com/example/poolwright/poolwright/PoolReport$Space" "free" "J" (.long f)) (F_rem_sp : Fld Z h0 sp "com/example/poolwright/poolwright/PoolReport$Space" "removable" "J" (.long r)) :
    MetFree l (⟨"com/example/poolwright/poolwright/PoolReport", "fits", "(J)Z"⟩ : MethodName) (head1 (Jvm.Cond.code (⟨"com/example/poolwright/poolwright/PoolReport", "fits", "(J)Z"⟩ : MethodName) prog_34_method_8_code 3 (some .boolean) :: ws) ({ frames := 1, cells := 0, slots := 0, locals := 16 } : Room)) (fun a U => a = #[(.ref a1), (.long q2)] ∧ Z.Warmed39 U.vm ∧ U.heap = h0) (fun _ _ _ _ _ => True) (fun _ U o U' => ∃ v L, o = .returned v ∧ Q_rm_fi Z a1 q2 sp f r h0 n0 v U'.heap L ∧ FrameEnd U o U' L ({ frames := 1, cells := 0, slots := 0, locals := 16 } : Room).cells ({ frames := 1, cells := 0, slots := 0, locals := 16 } : Room).slots) := by
  refine MetFree.of_bodySF (plainFor_of_name pn_6) hisR ?_
  intro p e s m args below meth c s₁ Bd hml0 hP hK
  obtain ⟨rfl, hZ, hh⟩ := hP
  have hx := Bd.exec
  have hby := Bd.bytes
  have hml : c.maxLocals = 3 := hml0
  have hown : s.vm.findClass "com/example/poolwright/poolwright/PoolReport" = some m.cls := findClass_of_methodNamed Bd.named
  have hnm := (name_of_methodNamed Bd.named Bd.method).1
  have X0 : Stand p l e ({ frames := 1, cells := 0, slots := 0, locals := 16 } : Room) s m #[(.ref a1), (.long q2)] below meth c s₁ [] 0 0 := Stand.of_body Bd
  have e0 : s₁.heap = h0 := by rw [← hh, Bd.state]; rfl
  have N0 := Fr.nil n0
  have pre0 : ∀ t, Steps p.tables e below (s₁.setTop (mkF m 0 #[.val (.ref a1), .val (.long q2), .second] [])) t → Steps p.tables e below (s₁.setTop (entryFrame m #[(.ref a1), (.long q2)] 3)) t := fun t kt => castTop (ef_rm_fi m a1 q2) kt
  obtain ⟨T1, X1, e1, st1⟩ := getF X0 hx hZ hown (host := "") (Or.inl (hw _ (List.mem_of_getElem? (i := 55) rfl))) Via.refl e0 F_space_a1 (g := (mkF m 1 #[.val (.ref a1), .val (.long q2), .second] [(.ref a1)])) rfl rfl (hb hby d6_1)
  obtain ⟨cq2, kq2, q2a, q2b, q2c⟩ := isOf hZ e1 E_sp
  obtain ⟨_, _, ⟨T2, L2, k2, n2⟩, -, X2, ⟨Lc2, hQ2, l2, y2, z2⟩, st2⟩ := X1.virtualBack hx (y := (⟨"com/example/poolwright/poolwright/PoolReport$Space", "free", "()J"⟩ : MethodName)) (z := (⟨"com/example/poolwright/poolwright/PoolReport$Space", "free", "()J"⟩ : MethodName)) hown (mvT hZ (hw _ (List.mem_of_getElem? (i := 64) rfl))) (mvT hZ (hw _ (List.mem_of_getElem? (i := 65) rfl))) (notFace_of_selects (args := #[]) (mvT hZ (hw _ (List.mem_of_getElem? (i := 67) rfl)))) (mvT hZ (hw _ (List.mem_of_getElem? (i := 67) rfl))) (mvT hZ (hw _ (List.mem_of_getElem? (i := 66) rfl))) (by decide) (backOf (W := 0) (rm_fr l Z a0 hw [] sp f h0 n0 Z0 F_free_sp) hZ (hw _ (List.mem_of_getElem? (i := 68) rfl)) (hw _ (List.mem_of_getElem? (i := 7) rfl)) (by decide) (by decide)) q2a q2c (g := (mkF m 4 #[.val (.ref a1), .val (.long q2), .second] [(.ref sp)])) rfl (by rw [hml]; rfl) (Steps.refl _) (argsL := []) (rest := []) (lenOf pd___J_155 rfl) rfl (by show 2 * 0 + _ ≤ _; exact Nat.le_of_eq rfl) (hb hby d6_4) (fun _ _ => ⟨rfl, e1, (by decide : 0 + 0 ≤ _), (by decide : 0 + 0 ≤ _)⟩)
  dsimp only [Pt.U, Pt.locs, Pt.cells, Pt.slots] at X2 l2 y2 z2 st2 hQ2
  subst l2 y2 z2
  obtain ⟨rfl, N2q, e2⟩ := hQ2
  have N2 := Fr.app N0 N2q
  obtain ⟨T3, X3, e3, st3⟩ := getF X2 hx hZ hown (host := "") (Or.inl (hw _ (List.mem_of_getElem? (i := 55) rfl))) Via.refl e2 F_space_a1 (g := (mkF m 9 #[.val (.ref a1), .val (.long q2), .second] [(.ref a1), (.long q2), (.long f)])) rfl rfl (hb hby d6_9)
  obtain ⟨cq4, kq4, q4a, q4b, q4c⟩ := isOf hZ e3 E_sp
  obtain ⟨_, _, ⟨T4, L4, k4, n4⟩, -, X4, ⟨Lc4, hQ4, l4, y4, z4⟩, st4⟩ := X3.virtualBack hx (y := (⟨"com/example/poolwright/poolwright/PoolReport$Space", "removable", "()J"⟩ : MethodName)) (z := (⟨"com/example/poolwright/poolwright/PoolReport$Space", "removable", "()J"⟩ : MethodName)) hown (mvT hZ (hw _ (List.mem_of_getElem? (i := 69) rfl))) (mvT hZ (hw _ (List.mem_of_getElem? (i := 70) rfl))) (notFace_of_selects (args := #[]) (mvT hZ (hw _ (List.mem_of_getElem? (i := 72) rfl)))) (mvT hZ (hw _ (List.mem_of_getElem? (i := 72) rfl))) (mvT hZ (hw _ (List.mem_of_getElem? (i := 71) rfl))) (by decide) (backOf (W := 4) (rm_re l Z a0 hw [] sp r h0 n0 Z0 F_rem_sp) hZ (hw _ (List.mem_of_getElem? (i := 73) rfl)) (hw _ (List.mem_of_getElem? (i := 7) rfl)) (by decide) (by decide)) q4a q4c (g := (mkF m 12 #[.val (.ref a1), .val (.long q2), .second] [(.ref sp), (.long q2), (.long f)])) rfl (by rw [hml]; rfl) (Steps.refl _) (argsL := []) (rest := [(.long q2), (.long f)]) (lenOf pd___J_155 rfl) rfl (by show 2 * 0 + _ ≤ _; exact Nat.le_of_eq rfl) (hb hby d6_12) (fun _ _ => ⟨rfl, e3, (by decide : 0 + 0 ≤ _), (by decide : 0 + 0 ≤ _)⟩)
  dsimp only [Pt.U, Pt.locs, Pt.cells, Pt.slots] at X4 l4 y4 z4 st4 hQ4
  subst l4 y4 z4
  obtain ⟨rfl, N4q, e4⟩ := hQ4
  have N4 := Fr.app N2 N4q
  have pre_5 : ∀ t, Steps p.tables e below (T4.setTop (mkF m 17 #[.val (.ref a1), .val (.long q2), .second] [(.int (lcmpW f (q2 - r)))])) t → Steps p.tables e below (s₁.setTop (entryFrame m #[(.ref a1), (.long q2)] 3)) t := by
    intro t kt
    refine pre0 _ ?_
    show Steps p.tables e below (s₁.setTop (mkF m 0 #[.val (.ref a1), .val (.long q2), .second] [])) _
    refine XS.aloadN X0.here hx rfl (hb hby d6_0) rfl rfl ?_
    show Steps p.tables e below (s₁.setTop (mkF m 1 #[.val (.ref a1), .val (.long q2), .second] [(.ref a1)])) _
    refine st1 _ ?_
    show Steps p.tables e below (T1.setTop (mkF m 4 #[.val (.ref a1), .val (.long q2), .second] [(.ref sp)])) _
    refine st2.trans ?_
    show Steps p.tables e below (T2.setTop (mkF m 7 #[.val (.ref a1), .val (.long q2), .second] [(.long f)])) _
    refine XS.lloadN X2.here hx rfl (hb hby d6_7) rfl ?_
    show Steps p.tables e below (T2.setTop (mkF m 8 #[.val (.ref a1), .val (.long q2), .second] [(.long q2), (.long f)])) _
    refine XS.aloadN X2.here hx rfl (hb hby d6_8) rfl rfl ?_
    show Steps p.tables e below (T2.setTop (mkF m 9 #[.val (.ref a1), .val (.long q2), .second] [(.ref a1), (.long q2), (.long f)])) _
    refine st3 _ ?_
    show Steps p.tables e below (T3.setTop (mkF m 12 #[.val (.ref a1), .val (.long q2), .second] [(.ref sp), (.long q2), (.long f)])) _
    refine st4.trans ?_
    show Steps p.tables e below (T4.setTop (mkF m 15 #[.val (.ref a1), .val (.long q2), .second] [(.long r), (.long q2), (.long f)])) _
    refine XS.lsub X4.here hx rfl (hb hby d6_15) rfl ?_
    show Steps p.tables e below (T4.setTop (mkF m 16 #[.val (.ref a1), .val (.long q2), .second] [(.long (q2 - r)), (.long f)])) _
    refine XS.lcmp X4.here hx rfl (hb hby d6_16) rfl ?_
    exact kt
  by_cases hc17 : (lcmpW f (q2 - r)) < (0 : Int32)
  · obtain ⟨fs, hr, hrun, hended, hW, hsame⟩ := X4.leave (v := some (.int (0 : Int32))) (fun h => by rw [Bd.returns] at h; cases h) (hlocks := Bd.notSynchronized)
    refine ⟨_, _, pre_5 _ ?_, hrun, hended, _, _, rfl, ?_, ⟨_, rfl⟩, hW, hsame.mono (by decide) (by decide)⟩
    · show Steps p.tables e below (T4.setTop (mkF m 17 #[.val (.ref a1), .val (.long q2), .second] [(.int (lcmpW f (q2 - r)))])) _
      refine XS.ifYes X4.here hx rfl (pc0 := 17) (pc' := 24) rfl (hb hby d6_17) rfl ((if0 _ _).trans (tlt hc17).1) (by decide) (by decide) ?_
      show Steps p.tables e below (T4.setTop (mkF m 24 #[.val (.ref a1), .val (.long q2), .second] [])) _
      refine XS.iconst X4.here hx rfl (hb hby d6_24) ?_
      show Steps p.tables e below (T4.setTop (mkF m 25 #[.val (.ref a1), .val (.long q2), .second] [(.int (0 : Int32))])) _
      exact retN X4 hx (t := .boolean) Bd.returns (by simp) (hb hby d6_25) hr
    · show Q_rm_fi Z a1 q2 sp f r h0 n0 _ T4.heap _
      rw [e4]
      exact ⟨by rw [own_fit, if_pos hc17], N4, rfl⟩
  · obtain ⟨fs, hr, hrun, hended, hW, hsame⟩ := X4.leave (v := some (.int (1 : Int32))) (fun h => by rw [Bd.returns] at h; cases h) (hlocks := Bd.notSynchronized)
    refine ⟨_, _, pre_5 _ ?_, hrun, hended, _, _, rfl, ?_, ⟨_, rfl⟩, hW, hsame.mono (by decide) (by decide)⟩
    · show Steps p.tables e below (T4.setTop (mkF m 17 #[.val (.ref a1), .val (.long q2), .second] [(.int (lcmpW f (q2 - r)))])) _
      refine XS.ifNo X4.here hx rfl (hb hby d6_17) rfl ((if0 _ _).trans (flt hc17).1) ?_
      show Steps p.tables e below (T4.setTop (mkF m 20 #[.val (.ref a1), .val (.long q2), .second] [])) _
      refine XS.iconst X4.here hx rfl (hb hby d6_20) ?_
      show Steps p.tables e below (T4.setTop (mkF m 21 #[.val (.ref a1), .val (.long q2), .second] [(.int (1 : Int32))])) _
      refine XS.goto X4.here hx rfl (pc0 := 21) (pc' := 25) rfl (hb hby d6_21) (by decide) (by decide) ?_
      show Steps p.tables e below (T4.setTop (mkF m 25 #[.val (.ref a1), .val (.long q2), .second] [(.int (1 : Int32))])) _
      exact retN X4 hx (t := .boolean) Bd.returns (by simp) (hb hby d6_25) hr
    · show Q_rm_fi Z a1 q2 sp f r h0 n0 _ T4.heap _
      rw [e4]
      exact ⟨by rw [own_fit, if_neg hc17], N4, rfl⟩
theorem pn_0 : plainName "com/example/poolwright/poolwright/PoolReportFitsPinLaw" = true := by first | (simp [plainName, overriddenIn]; done) | decide +kernel
theorem ef_rm0 (m : MethodId) (x0 : Int64) (x1 : Int64) (x2 : Int64) (x3 : Int32) : entryFrame m #[(.long x0), (.long x1), (.long x2), (.int x3)] maxLocals = mkF m 0 #[.val (.long x0), .second, .val (.long x1), .second, .val (.long x2), .second, .val (.int x3), .unset, .unset, .unset, .unset, .unset, .unset, .unset, .unset, .unset] [] := by first | (simp [entryFrame, mkF, argsToLocals, Value.category, maxLocals]; done) | rfl
def Q_rm0 (Z : State) (q1 : Int64) (q2 : Int64) (q3 : Int64) (p4 : Int32) (h0 : Heap) (n0 : Nat) (v : Option Value) (h : Heap) (L : List Loc) : Prop := v = some (.int 1) ∧ Fr n0 L
theorem pd__JJJI_J_450 : parseMethodDescriptor "(JJJI)J" = some ⟨[.long, .long, .long, .int], some .long⟩ := by decide +kernel
theorem pd__JJJDDJ_V_599 : parseMethodDescriptor "(JJJDDJ)V" = some ⟨[.long, .long, .long, .double, .double, .long], none⟩ := by decide +kernel
theorem own_sa : ∀ w ∈ Bundle.stringAtoms, w ∈ tables_1 := by decide +kernel
theorem pd__Ljava_lang_String_Ljava_lang_String_Ljava_util_Map_Lcom_exa_1528 : parseMethodDescriptor "(Ljava/lang/String;Ljava/lang/String;Ljava/util/Map;Lcom/example/poolwright/poolwright/PoolReport$Space;Ljava/util/Set;)V" = some ⟨[(.object "java/lang/String"), (.object "java/lang/String"), (.object "java/util/Map"), (.object "com/example/poolwright/poolwright/PoolReport$Space"), (.object "java/util/Set")], none⟩ := by decide +kernel
theorem pd__J_Z_245 : parseMethodDescriptor "(J)Z" = some ⟨[.long], some .boolean⟩ := by decide +kernel
set_option maxRecDepth 65536 in
set_option maxHeartbeats 40000000 in
theorem rm0 (l : Launch) (Z : State) (a0 : Array Value) (hw : ∀ d ∈ tables_1, d.before a0 Z = true) (ws : List Jvm.Cond) (q1 : Int64) (q2 : Int64) (q3 : Int64) (p4 : Int32) (h0 : Heap) (n0 : Nat) (Z0 : n0 ≤ h0.size)  :
    MetFree l x (head1 (Jvm.Cond.code x code maxLocals ret :: ws) room_1) (fun a U => a = #[(.long q1), (.long q2), (.long q3), (.int p4)] ∧ Z.Warmed39 U.vm ∧ U.heap = h0) (fun _ _ _ _ _ => True) (fun _ U o U' => ∃ v L, o = .returned v ∧ Q_rm0 Z q1 q2 q3 p4 h0 n0 v U'.heap L ∧ ReturnedEndW U o U' L room_1.cells room_1.slots) := by
  refine MetFree.of_bodySF (plainFor_of_name pn_0) hisR ?_
  intro p e s m args below meth c s₁ Bd hml0 hP hK
  obtain ⟨rfl, hZ, hh⟩ := hP
  have hx := Bd.exec
  have hby := Bd.bytes
  have hml : c.maxLocals = 16 := hml0
  have hown : s.vm.findClass "com/example/poolwright/poolwright/PoolReportFitsPinLaw" = some m.cls := findClass_of_methodNamed Bd.named
  have hnm := (name_of_methodNamed Bd.named Bd.method).1
  have X0 : Stand p l e room_1 s m #[(.long q1), (.long q2), (.long q3), (.int p4)] below meth c s₁ [] 0 0 := Stand.of_body Bd
  have e0 : s₁.heap = h0 := by rw [← hh, Bd.state]; rfl
  have N0 := Fr.nil n0
  have pre0 : ∀ t, Steps p.tables e below (s₁.setTop (mkF m 0 #[.val (.long q1), .second, .val (.long q2), .second, .val (.long q3), .second, .val (.int p4), .unset, .unset, .unset, .unset, .unset, .unset, .unset, .unset, .unset] [])) t → Steps p.tables e below (s₁.setTop (entryFrame m #[(.long q1), (.long q2), (.long q3), (.int p4)] maxLocals)) t := fun t kt => castTop (ef_rm0 m q1 q2 q3 p4) kt
  obtain ⟨_, _, ⟨T1, L1, k1, n1⟩, -, X1, ⟨Lc1, hQ1, l1, y1, z1⟩, st1⟩ := Jvm.LawKit.callS X0 hx (y := (⟨"com/example/poolwright/poolwright/PoolReportFitsPinLaw", "pickSize", "(JJJI)J"⟩ : MethodName)) hown (mvT hZ (hw _ (List.mem_of_getElem? (i := 1) rfl))) (mvT hZ (hw _ (List.mem_of_getElem? (i := 2) rfl))) (mvT hZ (hw _ (List.mem_of_getElem? (i := 3) rfl))) (mvT hZ (hw _ (List.mem_of_getElem? (i := 4) rfl))) (by decide) (backOf (W := 0) (rm_ps l Z a0 hw [] (q1 &&& (9223372036854775807 : Int64)) (q2 &&& (9223372036854775807 : Int64)) q3 p4 h0 n0 Z0 ) hZ (hw _ (List.mem_of_getElem? (i := 4) rfl)) (hw _ (List.mem_of_getElem? (i := 3) rfl)) (by decide) (by decide)) (g := (mkF m 22 #[.val (.long q1), .second, .val (.long q2), .second, .val (.long q3), .second, .val (.int p4), .val (.long (q1 &&& (9223372036854775807 : Int64))), .second, .val (.long (q2 &&& (9223372036854775807 : Int64))), .second, .unset, .unset, .unset, .unset, .unset] [(.int p4), (.long q3), (.long (q2 &&& (9223372036854775807 : Int64))), (.long (q1 &&& (9223372036854775807 : Int64)))])) rfl (by rw [hml]; rfl) (argsL := [(.long (q1 &&& (9223372036854775807 : Int64))), (.long (q2 &&& (9223372036854775807 : Int64))), (.long q3), (.int p4)]) (rest := []) (lenOf pd__JJJI_J_450 rfl) rfl (by show 2 * 0 + _ ≤ _; exact Nat.le_of_eq rfl) (hb hby at_22) (fun _ _ => ⟨rfl, e0, (by decide : 0 + 0 ≤ _), (by decide : 0 + 0 ≤ _)⟩)
  dsimp only [Pt.U, Pt.locs, Pt.cells, Pt.slots] at X1 l1 y1 z1 st1 hQ1
  subst l1 y1 z1
  obtain ⟨sz, rfl, N1q, e1, hsz⟩ := hQ1
  have N1 := Fr.app N0 N1q
  obtain ⟨T2, h2, X2, e2, E2, A2, D2, -, st2⟩ := newO X1 hx hZ hown (hw _ (List.mem_of_getElem? (i := 5) rfl)) (hw _ (List.mem_of_getElem? (i := 6) rfl)) (hw _ (List.mem_of_getElem? (i := 7) rfl)) e1 (g := (mkF m 27 #[.val (.long q1), .second, .val (.long q2), .second, .val (.long q3), .second, .val (.int p4), .val (.long (q1 &&& (9223372036854775807 : Int64))), .second, .val (.long (q2 &&& (9223372036854775807 : Int64))), .second, .val (.long sz), .second, .unset, .unset, .unset] [])) rfl (hb hby at_27) (by decide) (by decide)
  obtain ⟨b2, g2⟩ : ∃ z, z = h0.size := ⟨_, rfl⟩
  rw [← g2] at A2 D2 st2
  have g_b2 : n0 ≤ b2 := Nat.le_trans Z0 (Nat.le_of_eq g2.symm)
  have Z2 : n0 ≤ h2.size := Nat.le_trans Z0 E2.1
  have F_total_b2 : Fld Z h2 b2 "com/example/poolwright/poolwright/PoolReport$Space" "total" "J" (.long (0 : Int64)) := D2 (Or.inr (hw _ (List.mem_of_getElem? (i := 22) rfl))) (ty := .long) (by decide)
  have F_free_b2 : Fld Z h2 b2 "com/example/poolwright/poolwright/PoolReport$Space" "free" "J" (.long (0 : Int64)) := D2 (Or.inr (hw _ (List.mem_of_getElem? (i := 24) rfl))) (ty := .long) (by decide)
  have F_removable_b2 : Fld Z h2 b2 "com/example/poolwright/poolwright/PoolReport$Space" "removable" "J" (.long (0 : Int64)) := D2 (Or.inr (hw _ (List.mem_of_getElem? (i := 26) rfl))) (ty := .long) (by decide)
  have F_breakeven_b2 : Fld Z h2 b2 "com/example/poolwright/poolwright/PoolReport$Space" "breakeven" "D" (.double (0 : UInt64)) := D2 (Or.inr (hw _ (List.mem_of_getElem? (i := 28) rfl))) (ty := .double) (by decide)
  have F_lruSeconds_b2 : Fld Z h2 b2 "com/example/poolwright/poolwright/PoolReport$Space" "lruSeconds" "D" (.double (0 : UInt64)) := D2 (Or.inr (hw _ (List.mem_of_getElem? (i := 30) rfl))) (ty := .double) (by decide)
  have F_gap_b2 : Fld Z h2 b2 "com/example/poolwright/poolwright/PoolReport$Space" "gap" "J" (.long (0 : Int64)) := D2 (Or.inr (hw _ (List.mem_of_getElem? (i := 32) rfl))) (ty := .long) (by decide)
  obtain ⟨_, _, ⟨T3, L3, k3, n3⟩, -, X3, ⟨Lc3, hQ3, l3, y3, z3⟩, st3⟩ := X2.specialBack hx (y := (⟨"com/example/poolwright/poolwright/PoolReport$Space", "<init>", "(JJJDDJ)V"⟩ : MethodName)) rfl hown (mvT hZ (hw _ (List.mem_of_getElem? (i := 10) rfl))) (mvT hZ (hw _ (List.mem_of_getElem? (i := 11) rfl))) (mvT hZ (hw _ (List.mem_of_getElem? (i := 12) rfl))) (by decide) (backOf (W := 1) (rm_si l Z a0 hw [] b2 (10 : Int64) (q1 &&& (9223372036854775807 : Int64)) (q2 &&& (9223372036854775807 : Int64)) FP.dconst0 FP.dconst0 (4294967296 : Int64) h2 n0 Z2 F_total_b2 F_free_b2 F_removable_b2 F_breakeven_b2 F_lruSeconds_b2 F_gap_b2 A2 g_b2) hZ (hw _ (List.mem_of_getElem? (i := 12) rfl)) (hw _ (List.mem_of_getElem? (i := 7) rfl)) (by decide) (by decide)) (g := (mkF m 43 #[.val (.long q1), .second, .val (.long q2), .second, .val (.long q3), .second, .val (.int p4), .val (.long (q1 &&& (9223372036854775807 : Int64))), .second, .val (.long (q2 &&& (9223372036854775807 : Int64))), .second, .val (.long sz), .second, .unset, .unset, .unset] [(.long (4294967296 : Int64)), (.double FP.dconst0), (.double FP.dconst0), (.long (q2 &&& (9223372036854775807 : Int64))), (.long (q1 &&& (9223372036854775807 : Int64))), (.long (10 : Int64)), (.ref b2), (.ref b2)])) rfl (by rw [hml]; rfl) (Steps.refl _) (a := b2) (argsL := [(.long (10 : Int64)), (.long (q1 &&& (9223372036854775807 : Int64))), (.long (q2 &&& (9223372036854775807 : Int64))), (.double FP.dconst0), (.double FP.dconst0), (.long (4294967296 : Int64))]) (rest := [(.ref b2)]) (lenOf pd__JJJDDJ_V_599 rfl) rfl (by show 2 * 0 + _ ≤ _; exact Nat.le_of_eq rfl) (hb hby at_43) (fun _ _ => ⟨rfl, e2, (by decide : 1 + 0 ≤ _), (by decide : 6 + 0 ≤ _)⟩)
  dsimp only [Pt.U, Pt.locs, Pt.cells, Pt.slots] at X3 l3 y3 z3 st3 hQ3
  subst l3 y3 z3
  obtain ⟨rfl, N3q, K3, fk3_0, fk3_1, fk3_2⟩ := hQ3
  have f1 : n0 ≤ b2 := g_b2
  have Z3 : n0 ≤ T3.heap.size := Nat.le_trans Z2 K3.1
  have N3 := Fr.app N1 N3q
  obtain ⟨T4, h4, X4, e4, E4, A4, D4, -, st4⟩ := newO X3 hx hZ hown (hw _ (List.mem_of_getElem? (i := 33) rfl)) (hw _ (List.mem_of_getElem? (i := 34) rfl)) (hw _ (List.mem_of_getElem? (i := 35) rfl)) rfl (g := (mkF m 48 #[.val (.long q1), .second, .val (.long q2), .second, .val (.long q3), .second, .val (.int p4), .val (.long (q1 &&& (9223372036854775807 : Int64))), .second, .val (.long (q2 &&& (9223372036854775807 : Int64))), .second, .val (.long sz), .second, .val (.ref b2), .unset, .unset] [])) rfl (hb hby at_48) (by decide) (by decide)
  obtain ⟨b4, g4⟩ : ∃ z, z = T3.heap.size := ⟨_, rfl⟩
  rw [← g4] at A4 D4 st4
  have ne_b2_b4 : b2 ≠ b4 := Nat.ne_of_lt (Nat.lt_of_lt_of_le fk3_0.lt (Nat.le_of_eq g4.symm))
  have f2 : n0 ≤ b2 := f1
  have f3 : Exa Z h4 b2 "com/example/poolwright/poolwright/PoolReport$Space" := fk3_0.ext E4
  have f4 : Fld Z h4 b2 "com/example/poolwright/poolwright/PoolReport$Space" "free" "J" (.long (q1 &&& (9223372036854775807 : Int64))) := fk3_1.ext E4
  have f5 : Fld Z h4 b2 "com/example/poolwright/poolwright/PoolReport$Space" "removable" "J" (.long (q2 &&& (9223372036854775807 : Int64))) := fk3_2.ext E4
  have g_b4 : n0 ≤ b4 := Nat.le_trans Z3 (Nat.le_of_eq g4.symm)
  have Z4 : n0 ≤ h4.size := Nat.le_trans Z3 E4.1
  have F_pool_b4 : Fld Z h4 b4 "com/example/poolwright/poolwright/PoolReport" "pool" "Ljava/lang/String;" .null := D4 (Or.inr (hw _ (List.mem_of_getElem? (i := 50) rfl))) (ty := (.object "java/lang/String")) (by decide)
  have F_host_b4 : Fld Z h4 b4 "com/example/poolwright/poolwright/PoolReport" "host" "Ljava/lang/String;" .null := D4 (Or.inr (hw _ (List.mem_of_getElem? (i := 52) rfl))) (ty := (.object "java/lang/String")) (by decide)
  have F_movers_b4 : Fld Z h4 b4 "com/example/poolwright/poolwright/PoolReport" "movers" "Ljava/util/Map;" .null := D4 (Or.inr (hw _ (List.mem_of_getElem? (i := 54) rfl))) (ty := (.object "java/util/Map")) (by decide)
  have F_space_b4 : Fld Z h4 b4 "com/example/poolwright/poolwright/PoolReport" "space" "Lcom/example/poolwright/poolwright/PoolReport$Space;" .null := D4 (Or.inr (hw _ (List.mem_of_getElem? (i := 56) rfl))) (ty := (.object "com/example/poolwright/poolwright/PoolReport$Space")) (by decide)
  have F_mode_b4 : Fld Z h4 b4 "com/example/poolwright/poolwright/PoolReport" "mode" "Ljava/util/Set;" .null := D4 (Or.inr (hw _ (List.mem_of_getElem? (i := 58) rfl))) (ty := (.object "java/util/Set")) (by decide)
  have pre_5 : ∀ t, Steps p.tables e below (T4.setTop (mkF m 52 #[.val (.long q1), .second, .val (.long q2), .second, .val (.long q3), .second, .val (.int p4), .val (.long (q1 &&& (9223372036854775807 : Int64))), .second, .val (.long (q2 &&& (9223372036854775807 : Int64))), .second, .val (.long sz), .second, .val (.ref b2), .unset, .unset] [(.ref b4), (.ref b4)])) t → Steps p.tables e below (s₁.setTop (entryFrame m #[(.long q1), (.long q2), (.long q3), (.int p4)] maxLocals)) t := by
    intro t kt
    refine pre0 _ ?_
    show Steps p.tables e below (s₁.setTop (mkF m 0 #[.val (.long q1), .second, .val (.long q2), .second, .val (.long q3), .second, .val (.int p4), .unset, .unset, .unset, .unset, .unset, .unset, .unset, .unset, .unset] [])) _
    refine XS.lloadN X0.here hx rfl (hb hby at_0) rfl ?_
    show Steps p.tables e below (s₁.setTop (mkF m 1 #[.val (.long q1), .second, .val (.long q2), .second, .val (.long q3), .second, .val (.int p4), .unset, .unset, .unset, .unset, .unset, .unset, .unset, .unset, .unset] [(.long q1)])) _
    refine X0.ldc2Long hx hown (mvT hZ (hw _ (List.mem_of_getElem? (i := 0) rfl))) (g := (mkF m 1 #[.val (.long q1), .second, .val (.long q2), .second, .val (.long q3), .second, .val (.int p4), .unset, .unset, .unset, .unset, .unset, .unset, .unset, .unset, .unset] [(.long q1)])) rfl (hb hby at_1) _ ?_
    show Steps p.tables e below (s₁.setTop (mkF m 4 #[.val (.long q1), .second, .val (.long q2), .second, .val (.long q3), .second, .val (.int p4), .unset, .unset, .unset, .unset, .unset, .unset, .unset, .unset, .unset] [(.long (9223372036854775807 : Int64)), (.long q1)])) _
    refine XS.land X0.here hx rfl (hb hby at_4) rfl ?_
    show Steps p.tables e below (s₁.setTop (mkF m 5 #[.val (.long q1), .second, .val (.long q2), .second, .val (.long q3), .second, .val (.int p4), .unset, .unset, .unset, .unset, .unset, .unset, .unset, .unset, .unset] [(.long (q1 &&& (9223372036854775807 : Int64)))])) _
    refine XS.lstore X0.here hx rfl (hb hby at_5) rfl (l' := #[.val (.long q1), .second, .val (.long q2), .second, .val (.long q3), .second, .val (.int p4), .val (.long (q1 &&& (9223372036854775807 : Int64))), .second, .unset, .unset, .unset, .unset, .unset, .unset, .unset]) rfl ?_
    show Steps p.tables e below (s₁.setTop (mkF m 7 #[.val (.long q1), .second, .val (.long q2), .second, .val (.long q3), .second, .val (.int p4), .val (.long (q1 &&& (9223372036854775807 : Int64))), .second, .unset, .unset, .unset, .unset, .unset, .unset, .unset] [])) _
    refine XS.lloadN X0.here hx rfl (hb hby at_7) rfl ?_
    show Steps p.tables e below (s₁.setTop (mkF m 8 #[.val (.long q1), .second, .val (.long q2), .second, .val (.long q3), .second, .val (.int p4), .val (.long (q1 &&& (9223372036854775807 : Int64))), .second, .unset, .unset, .unset, .unset, .unset, .unset, .unset] [(.long q2)])) _
    refine X0.ldc2Long hx hown (mvT hZ (hw _ (List.mem_of_getElem? (i := 0) rfl))) (g := (mkF m 8 #[.val (.long q1), .second, .val (.long q2), .second, .val (.long q3), .second, .val (.int p4), .val (.long (q1 &&& (9223372036854775807 : Int64))), .second, .unset, .unset, .unset, .unset, .unset, .unset, .unset] [(.long q2)])) rfl (hb hby at_8) _ ?_
    show Steps p.tables e below (s₁.setTop (mkF m 11 #[.val (.long q1), .second, .val (.long q2), .second, .val (.long q3), .second, .val (.int p4), .val (.long (q1 &&& (9223372036854775807 : Int64))), .second, .unset, .unset, .unset, .unset, .unset, .unset, .unset] [(.long (9223372036854775807 : Int64)), (.long q2)])) _
    refine XS.land X0.here hx rfl (hb hby at_11) rfl ?_
    show Steps p.tables e below (s₁.setTop (mkF m 12 #[.val (.long q1), .second, .val (.long q2), .second, .val (.long q3), .second, .val (.int p4), .val (.long (q1 &&& (9223372036854775807 : Int64))), .second, .unset, .unset, .unset, .unset, .unset, .unset, .unset] [(.long (q2 &&& (9223372036854775807 : Int64)))])) _
    refine XS.lstore X0.here hx rfl (hb hby at_12) rfl (l' := #[.val (.long q1), .second, .val (.long q2), .second, .val (.long q3), .second, .val (.int p4), .val (.long (q1 &&& (9223372036854775807 : Int64))), .second, .val (.long (q2 &&& (9223372036854775807 : Int64))), .second, .unset, .unset, .unset, .unset, .unset]) rfl ?_
    show Steps p.tables e below (s₁.setTop (mkF m 14 #[.val (.long q1), .second, .val (.long q2), .second, .val (.long q3), .second, .val (.int p4), .val (.long (q1 &&& (9223372036854775807 : Int64))), .second, .val (.long (q2 &&& (9223372036854775807 : Int64))), .second, .unset, .unset, .unset, .unset, .unset] [])) _
    refine XS.lload X0.here hx rfl (hb hby at_14) rfl ?_
    show Steps p.tables e below (s₁.setTop (mkF m 16 #[.val (.long q1), .second, .val (.long q2), .second, .val (.long q3), .second, .val (.int p4), .val (.long (q1 &&& (9223372036854775807 : Int64))), .second, .val (.long (q2 &&& (9223372036854775807 : Int64))), .second, .unset, .unset, .unset, .unset, .unset] [(.long (q1 &&& (9223372036854775807 : Int64)))])) _
    refine XS.lload X0.here hx rfl (hb hby at_16) rfl ?_
    show Steps p.tables e below (s₁.setTop (mkF m 18 #[.val (.long q1), .second, .val (.long q2), .second, .val (.long q3), .second, .val (.int p4), .val (.long (q1 &&& (9223372036854775807 : Int64))), .second, .val (.long (q2 &&& (9223372036854775807 : Int64))), .second, .unset, .unset, .unset, .unset, .unset] [(.long (q2 &&& (9223372036854775807 : Int64))), (.long (q1 &&& (9223372036854775807 : Int64)))])) _
    refine XS.lload X0.here hx rfl (hb hby at_18) rfl ?_
    show Steps p.tables e below (s₁.setTop (mkF m 20 #[.val (.long q1), .second, .val (.long q2), .second, .val (.long q3), .second, .val (.int p4), .val (.long (q1 &&& (9223372036854775807 : Int64))), .second, .val (.long (q2 &&& (9223372036854775807 : Int64))), .second, .unset, .unset, .unset, .unset, .unset] [(.long q3), (.long (q2 &&& (9223372036854775807 : Int64))), (.long (q1 &&& (9223372036854775807 : Int64)))])) _
    refine XS.iload X0.here hx rfl (hb hby at_20) rfl ?_
    show Steps p.tables e below (s₁.setTop (mkF m 22 #[.val (.long q1), .second, .val (.long q2), .second, .val (.long q3), .second, .val (.int p4), .val (.long (q1 &&& (9223372036854775807 : Int64))), .second, .val (.long (q2 &&& (9223372036854775807 : Int64))), .second, .unset, .unset, .unset, .unset, .unset] [(.int p4), (.long q3), (.long (q2 &&& (9223372036854775807 : Int64))), (.long (q1 &&& (9223372036854775807 : Int64)))])) _
    refine st1 _ ?_
    show Steps p.tables e below (T1.setTop (mkF m 25 #[.val (.long q1), .second, .val (.long q2), .second, .val (.long q3), .second, .val (.int p4), .val (.long (q1 &&& (9223372036854775807 : Int64))), .second, .val (.long (q2 &&& (9223372036854775807 : Int64))), .second, .unset, .unset, .unset, .unset, .unset] [(.long sz)])) _
    refine XS.lstore X1.here hx rfl (hb hby at_25) rfl (l' := #[.val (.long q1), .second, .val (.long q2), .second, .val (.long q3), .second, .val (.int p4), .val (.long (q1 &&& (9223372036854775807 : Int64))), .second, .val (.long (q2 &&& (9223372036854775807 : Int64))), .second, .val (.long sz), .second, .unset, .unset, .unset]) rfl ?_
    show Steps p.tables e below (T1.setTop (mkF m 27 #[.val (.long q1), .second, .val (.long q2), .second, .val (.long q3), .second, .val (.int p4), .val (.long (q1 &&& (9223372036854775807 : Int64))), .second, .val (.long (q2 &&& (9223372036854775807 : Int64))), .second, .val (.long sz), .second, .unset, .unset, .unset] [])) _
    refine st2 _ ?_
    show Steps p.tables e below (T2.setTop (mkF m 30 #[.val (.long q1), .second, .val (.long q2), .second, .val (.long q3), .second, .val (.int p4), .val (.long (q1 &&& (9223372036854775807 : Int64))), .second, .val (.long (q2 &&& (9223372036854775807 : Int64))), .second, .val (.long sz), .second, .unset, .unset, .unset] [(.ref b2)])) _
    refine XS.dup X2.here hx rfl (hb hby at_30) rfl rfl ?_
    show Steps p.tables e below (T2.setTop (mkF m 31 #[.val (.long q1), .second, .val (.long q2), .second, .val (.long q3), .second, .val (.int p4), .val (.long (q1 &&& (9223372036854775807 : Int64))), .second, .val (.long (q2 &&& (9223372036854775807 : Int64))), .second, .val (.long sz), .second, .unset, .unset, .unset] [(.ref b2), (.ref b2)])) _
    refine X2.ldc2Long hx hown (mvT hZ (hw _ (List.mem_of_getElem? (i := 8) rfl))) (g := (mkF m 31 #[.val (.long q1), .second, .val (.long q2), .second, .val (.long q3), .second, .val (.int p4), .val (.long (q1 &&& (9223372036854775807 : Int64))), .second, .val (.long (q2 &&& (9223372036854775807 : Int64))), .second, .val (.long sz), .second, .unset, .unset, .unset] [(.ref b2), (.ref b2)])) rfl (hb hby at_31) _ ?_
    show Steps p.tables e below (T2.setTop (mkF m 34 #[.val (.long q1), .second, .val (.long q2), .second, .val (.long q3), .second, .val (.int p4), .val (.long (q1 &&& (9223372036854775807 : Int64))), .second, .val (.long (q2 &&& (9223372036854775807 : Int64))), .second, .val (.long sz), .second, .unset, .unset, .unset] [(.long (10 : Int64)), (.ref b2), (.ref b2)])) _
    refine XS.lload X2.here hx rfl (hb hby at_34) rfl ?_
    show Steps p.tables e below (T2.setTop (mkF m 36 #[.val (.long q1), .second, .val (.long q2), .second, .val (.long q3), .second, .val (.int p4), .val (.long (q1 &&& (9223372036854775807 : Int64))), .second, .val (.long (q2 &&& (9223372036854775807 : Int64))), .second, .val (.long sz), .second, .unset, .unset, .unset] [(.long (q1 &&& (9223372036854775807 : Int64))), (.long (10 : Int64)), (.ref b2), (.ref b2)])) _
    refine XS.lload X2.here hx rfl (hb hby at_36) rfl ?_
    show Steps p.tables e below (T2.setTop (mkF m 38 #[.val (.long q1), .second, .val (.long q2), .second, .val (.long q3), .second, .val (.int p4), .val (.long (q1 &&& (9223372036854775807 : Int64))), .second, .val (.long (q2 &&& (9223372036854775807 : Int64))), .second, .val (.long sz), .second, .unset, .unset, .unset] [(.long (q2 &&& (9223372036854775807 : Int64))), (.long (q1 &&& (9223372036854775807 : Int64))), (.long (10 : Int64)), (.ref b2), (.ref b2)])) _
    refine XS.dconst0 X2.here hx rfl (hb hby at_38) rfl ?_
    show Steps p.tables e below (T2.setTop (mkF m 39 #[.val (.long q1), .second, .val (.long q2), .second, .val (.long q3), .second, .val (.int p4), .val (.long (q1 &&& (9223372036854775807 : Int64))), .second, .val (.long (q2 &&& (9223372036854775807 : Int64))), .second, .val (.long sz), .second, .unset, .unset, .unset] [(.double FP.dconst0), (.long (q2 &&& (9223372036854775807 : Int64))), (.long (q1 &&& (9223372036854775807 : Int64))), (.long (10 : Int64)), (.ref b2), (.ref b2)])) _
    refine XS.dconst0 X2.here hx rfl (hb hby at_39) rfl ?_
    show Steps p.tables e below (T2.setTop (mkF m 40 #[.val (.long q1), .second, .val (.long q2), .second, .val (.long q3), .second, .val (.int p4), .val (.long (q1 &&& (9223372036854775807 : Int64))), .second, .val (.long (q2 &&& (9223372036854775807 : Int64))), .second, .val (.long sz), .second, .unset, .unset, .unset] [(.double FP.dconst0), (.double FP.dconst0), (.long (q2 &&& (9223372036854775807 : Int64))), (.long (q1 &&& (9223372036854775807 : Int64))), (.long (10 : Int64)), (.ref b2), (.ref b2)])) _
    refine X2.ldc2Long hx hown (mvT hZ (hw _ (List.mem_of_getElem? (i := 9) rfl))) (g := (mkF m 40 #[.val (.long q1), .second, .val (.long q2), .second, .val (.long q3), .second, .val (.int p4), .val (.long (q1 &&& (9223372036854775807 : Int64))), .second, .val (.long (q2 &&& (9223372036854775807 : Int64))), .second, .val (.long sz), .second, .unset, .unset, .unset] [(.double FP.dconst0), (.double FP.dconst0), (.long (q2 &&& (9223372036854775807 : Int64))), (.long (q1 &&& (9223372036854775807 : Int64))), (.long (10 : Int64)), (.ref b2), (.ref b2)])) rfl (hb hby at_40) _ ?_
    show Steps p.tables e below (T2.setTop (mkF m 43 #[.val (.long q1), .second, .val (.long q2), .second, .val (.long q3), .second, .val (.int p4), .val (.long (q1 &&& (9223372036854775807 : Int64))), .second, .val (.long (q2 &&& (9223372036854775807 : Int64))), .second, .val (.long sz), .second, .unset, .unset, .unset] [(.long (4294967296 : Int64)), (.double FP.dconst0), (.double FP.dconst0), (.long (q2 &&& (9223372036854775807 : Int64))), (.long (q1 &&& (9223372036854775807 : Int64))), (.long (10 : Int64)), (.ref b2), (.ref b2)])) _
    refine st3.trans ?_
    show Steps p.tables e below (T3.setTop (mkF m 46 #[.val (.long q1), .second, .val (.long q2), .second, .val (.long q3), .second, .val (.int p4), .val (.long (q1 &&& (9223372036854775807 : Int64))), .second, .val (.long (q2 &&& (9223372036854775807 : Int64))), .second, .val (.long sz), .second, .unset, .unset, .unset] [(.ref b2)])) _
    refine XS.astore X3.here hx rfl (hb hby at_46) rfl rfl (l' := #[.val (.long q1), .second, .val (.long q2), .second, .val (.long q3), .second, .val (.int p4), .val (.long (q1 &&& (9223372036854775807 : Int64))), .second, .val (.long (q2 &&& (9223372036854775807 : Int64))), .second, .val (.long sz), .second, .val (.ref b2), .unset, .unset]) rfl ?_
    show Steps p.tables e below (T3.setTop (mkF m 48 #[.val (.long q1), .second, .val (.long q2), .second, .val (.long q3), .second, .val (.int p4), .val (.long (q1 &&& (9223372036854775807 : Int64))), .second, .val (.long (q2 &&& (9223372036854775807 : Int64))), .second, .val (.long sz), .second, .val (.ref b2), .unset, .unset] [])) _
    refine st4 _ ?_
    show Steps p.tables e below (T4.setTop (mkF m 51 #[.val (.long q1), .second, .val (.long q2), .second, .val (.long q3), .second, .val (.int p4), .val (.long (q1 &&& (9223372036854775807 : Int64))), .second, .val (.long (q2 &&& (9223372036854775807 : Int64))), .second, .val (.long sz), .second, .val (.ref b2), .unset, .unset] [(.ref b4)])) _
    refine XS.dup X4.here hx rfl (hb hby at_51) rfl rfl ?_
    exact kt
  obtain ⟨b6, T6, h6, k6, X6, e6, E6, hS6, hk6, hZ, hown, st6⟩ := ldcS (s := s) (vm0 := s.vm) X4 hx hZ hown (hw _ (List.mem_of_getElem? (i := 36) rfl)) (fun a ha => hw a (own_sa a ha)) e4 ((State.WarmedH.refl s).since h4.size) (Nat.le_refl _) (g := (mkF m 52 #[.val (.long q1), .second, .val (.long q2), .second, .val (.long q3), .second, .val (.int p4), .val (.long (q1 &&& (9223372036854775807 : Int64))), .second, .val (.long (q2 &&& (9223372036854775807 : Int64))), .second, .val (.long sz), .second, .val (.ref b2), .unset, .unset] [(.ref b4), (.ref b4)])) rfl (hb hby at_52) (n := 4) (by decide) (by decide) (by decide) (by decide)
  have f6 : n0 ≤ b2 := f2
  have f7 : Exa Z h6 b2 "com/example/poolwright/poolwright/PoolReport$Space" := f3.ext E6
  have f8 : Fld Z h6 b2 "com/example/poolwright/poolwright/PoolReport$Space" "free" "J" (.long (q1 &&& (9223372036854775807 : Int64))) := f4.ext E6
  have f9 : Fld Z h6 b2 "com/example/poolwright/poolwright/PoolReport$Space" "removable" "J" (.long (q2 &&& (9223372036854775807 : Int64))) := f5.ext E6
  have f10 : n0 ≤ b4 := g_b4
  have f11 : Exa Z h6 b4 "com/example/poolwright/poolwright/PoolReport" := A4.ext E6
  have f12 : Fld Z h6 b4 "com/example/poolwright/poolwright/PoolReport" "pool" "Ljava/lang/String;" .null := F_pool_b4.ext E6
  have f13 : Fld Z h6 b4 "com/example/poolwright/poolwright/PoolReport" "host" "Ljava/lang/String;" .null := F_host_b4.ext E6
  have f14 : Fld Z h6 b4 "com/example/poolwright/poolwright/PoolReport" "movers" "Ljava/util/Map;" .null := F_movers_b4.ext E6
  have f15 : Fld Z h6 b4 "com/example/poolwright/poolwright/PoolReport" "space" "Lcom/example/poolwright/poolwright/PoolReport$Space;" .null := F_space_b4.ext E6
  have f16 : Fld Z h6 b4 "com/example/poolwright/poolwright/PoolReport" "mode" "Ljava/util/Set;" .null := F_mode_b4.ext E6
  have Z6 : n0 ≤ h6.size := Nat.le_trans Z4 E6.1
  have pre_7 : ∀ t, Steps p.tables e below (T6.setTop (mkF m 54 #[.val (.long q1), .second, .val (.long q2), .second, .val (.long q3), .second, .val (.int p4), .val (.long (q1 &&& (9223372036854775807 : Int64))), .second, .val (.long (q2 &&& (9223372036854775807 : Int64))), .second, .val (.long sz), .second, .val (.ref b2), .unset, .unset] [(.ref b6), (.ref b4), (.ref b4)])) t → Steps p.tables e below (s₁.setTop (entryFrame m #[(.long q1), (.long q2), (.long q3), (.int p4)] maxLocals)) t := by
    intro t kt
    refine pre_5 _ ?_
    show Steps p.tables e below (T4.setTop (mkF m 52 #[.val (.long q1), .second, .val (.long q2), .second, .val (.long q3), .second, .val (.int p4), .val (.long (q1 &&& (9223372036854775807 : Int64))), .second, .val (.long (q2 &&& (9223372036854775807 : Int64))), .second, .val (.long sz), .second, .val (.ref b2), .unset, .unset] [(.ref b4), (.ref b4)])) _
    refine st6 _ ?_
    exact kt
  obtain ⟨b8, T8, h8, k8, X8, e8, E8, hS8, hk8, hZ, hown, st8⟩ := ldcS (s := s) X6 hx hZ hown (hw _ (List.mem_of_getElem? (i := 44) rfl)) (fun a ha => hw a (own_sa a ha)) e6 hS6 hk6 (g := (mkF m 54 #[.val (.long q1), .second, .val (.long q2), .second, .val (.long q3), .second, .val (.int p4), .val (.long (q1 &&& (9223372036854775807 : Int64))), .second, .val (.long (q2 &&& (9223372036854775807 : Int64))), .second, .val (.long sz), .second, .val (.ref b2), .unset, .unset] [(.ref b6), (.ref b4), (.ref b4)])) rfl (hb hby at_54) (n := 4) (by decide) (by decide) (by decide) (by decide)
  have f17 : n0 ≤ b2 := f6
  have f18 : Exa Z h8 b2 "com/example/poolwright/poolwright/PoolReport$Space" := f7.ext E8
  have f19 : Fld Z h8 b2 "com/example/poolwright/poolwright/PoolReport$Space" "free" "J" (.long (q1 &&& (9223372036854775807 : Int64))) := f8.ext E8
  have f20 : Fld Z h8 b2 "com/example/poolwright/poolwright/PoolReport$Space" "removable" "J" (.long (q2 &&& (9223372036854775807 : Int64))) := f9.ext E8
  have f21 : n0 ≤ b4 := f10
  have f22 : Exa Z h8 b4 "com/example/poolwright/poolwright/PoolReport" := f11.ext E8
  have f23 : Fld Z h8 b4 "com/example/poolwright/poolwright/PoolReport" "pool" "Ljava/lang/String;" .null := f12.ext E8
  have f24 : Fld Z h8 b4 "com/example/poolwright/poolwright/PoolReport" "host" "Ljava/lang/String;" .null := f13.ext E8
  have f25 : Fld Z h8 b4 "com/example/poolwright/poolwright/PoolReport" "movers" "Ljava/util/Map;" .null := f14.ext E8
  have f26 : Fld Z h8 b4 "com/example/poolwright/poolwright/PoolReport" "space" "Lcom/example/poolwright/poolwright/PoolReport$Space;" .null := f15.ext E8
  have f27 : Fld Z h8 b4 "com/example/poolwright/poolwright/PoolReport" "mode" "Ljava/util/Set;" .null := f16.ext E8
  have Z8 : n0 ≤ h8.size := Nat.le_trans Z6 E8.1
  obtain ⟨_, _, ⟨T9, L9, k9, n9⟩, -, X9, ⟨Lc9, hQ9, l9, y9, z9⟩, st9⟩ := X8.specialBack hx (y := (⟨"com/example/poolwright/poolwright/PoolReport", "<init>", "(Ljava/lang/String;Ljava/lang/String;Ljava/util/Map;Lcom/example/poolwright/poolwright/PoolReport$Space;Ljava/util/Set;)V"⟩ : MethodName)) rfl hown (mvT hZ (hw _ (List.mem_of_getElem? (i := 45) rfl))) (mvT hZ (hw _ (List.mem_of_getElem? (i := 46) rfl))) (mvT hZ (hw _ (List.mem_of_getElem? (i := 47) rfl))) (by decide) (backOf (W := 1) (rm_pi l Z a0 hw [] b4 b6 b8 b2 h8 n0 Z8 f23 f24 f25 f26 f27 f22 f21) hZ (hw _ (List.mem_of_getElem? (i := 47) rfl)) (hw _ (List.mem_of_getElem? (i := 35) rfl)) (by decide) (by decide)) (g := (mkF m 60 #[.val (.long q1), .second, .val (.long q2), .second, .val (.long q3), .second, .val (.int p4), .val (.long (q1 &&& (9223372036854775807 : Int64))), .second, .val (.long (q2 &&& (9223372036854775807 : Int64))), .second, .val (.long sz), .second, .val (.ref b2), .unset, .unset] [.null, (.ref b2), .null, (.ref b8), (.ref b6), (.ref b4), (.ref b4)])) rfl (by rw [hml]; rfl) (Steps.refl _) (a := b4) (argsL := [(.ref b6), (.ref b8), .null, (.ref b2), .null]) (rest := [(.ref b4)]) (lenOf pd__Ljava_lang_String_Ljava_lang_String_Ljava_util_Map_Lcom_exa_1528 rfl) rfl (by show 2 * 0 + _ ≤ _; exact Nat.le_of_eq rfl) (hb hby at_60) (fun _ _ => ⟨rfl, e8, (by decide : 6 + 0 ≤ _), (by decide : 27 + 0 ≤ _)⟩)
  dsimp only [Pt.U, Pt.locs, Pt.cells, Pt.slots] at X9 l9 y9 z9 st9 hQ9
  subst l9 y9 z9
  obtain ⟨rfl, N9q, K9, fk9_0, fk9_1⟩ := hQ9
  have f28 : n0 ≤ b2 := f17
  have f29 : Exa Z T9.heap b2 "com/example/poolwright/poolwright/PoolReport$Space" := f18.keep K9
  have f30 : Fld Z T9.heap b2 "com/example/poolwright/poolwright/PoolReport$Space" "free" "J" (.long (q1 &&& (9223372036854775807 : Int64))) := f19.keep K9 (by simp [ne_b2_b4])
  have f31 : Fld Z T9.heap b2 "com/example/poolwright/poolwright/PoolReport$Space" "removable" "J" (.long (q2 &&& (9223372036854775807 : Int64))) := f20.keep K9 (by simp [ne_b2_b4])
  have f32 : n0 ≤ b4 := f21
  have f33 : k8 ≤ T9.heap.size := Nat.le_trans hk8 K9.1
  have Z9 : n0 ≤ T9.heap.size := Nat.le_trans Z8 K9.1
  have N9 := Fr.app N3 N9q
  have pre_10 : ∀ t, Steps p.tables e below (T9.setTop (mkF m 70 #[.val (.long q1), .second, .val (.long q2), .second, .val (.long q3), .second, .val (.int p4), .val (.long (q1 &&& (9223372036854775807 : Int64))), .second, .val (.long (q2 &&& (9223372036854775807 : Int64))), .second, .val (.long sz), .second, .val (.ref b2), .val (.ref b4), .unset] [(.int (lcmpW (q1 &&& (9223372036854775807 : Int64)) sz))])) t → Steps p.tables e below (s₁.setTop (entryFrame m #[(.long q1), (.long q2), (.long q3), (.int p4)] maxLocals)) t := by
    intro t kt
    refine pre_7 _ ?_
    show Steps p.tables e below (T6.setTop (mkF m 54 #[.val (.long q1), .second, .val (.long q2), .second, .val (.long q3), .second, .val (.int p4), .val (.long (q1 &&& (9223372036854775807 : Int64))), .second, .val (.long (q2 &&& (9223372036854775807 : Int64))), .second, .val (.long sz), .second, .val (.ref b2), .unset, .unset] [(.ref b6), (.ref b4), (.ref b4)])) _
    refine st8 _ ?_
    show Steps p.tables e below (T8.setTop (mkF m 56 #[.val (.long q1), .second, .val (.long q2), .second, .val (.long q3), .second, .val (.int p4), .val (.long (q1 &&& (9223372036854775807 : Int64))), .second, .val (.long (q2 &&& (9223372036854775807 : Int64))), .second, .val (.long sz), .second, .val (.ref b2), .unset, .unset] [(.ref b8), (.ref b6), (.ref b4), (.ref b4)])) _
    refine XS.aconstNull X8.here hx rfl (hb hby at_56) ?_
    show Steps p.tables e below (T8.setTop (mkF m 57 #[.val (.long q1), .second, .val (.long q2), .second, .val (.long q3), .second, .val (.int p4), .val (.long (q1 &&& (9223372036854775807 : Int64))), .second, .val (.long (q2 &&& (9223372036854775807 : Int64))), .second, .val (.long sz), .second, .val (.ref b2), .unset, .unset] [.null, (.ref b8), (.ref b6), (.ref b4), (.ref b4)])) _
    refine XS.aload X8.here hx rfl (hb hby at_57) rfl rfl ?_
    show Steps p.tables e below (T8.setTop (mkF m 59 #[.val (.long q1), .second, .val (.long q2), .second, .val (.long q3), .second, .val (.int p4), .val (.long (q1 &&& (9223372036854775807 : Int64))), .second, .val (.long (q2 &&& (9223372036854775807 : Int64))), .second, .val (.long sz), .second, .val (.ref b2), .unset, .unset] [(.ref b2), .null, (.ref b8), (.ref b6), (.ref b4), (.ref b4)])) _
    refine XS.aconstNull X8.here hx rfl (hb hby at_59) ?_
    show Steps p.tables e below (T8.setTop (mkF m 60 #[.val (.long q1), .second, .val (.long q2), .second, .val (.long q3), .second, .val (.int p4), .val (.long (q1 &&& (9223372036854775807 : Int64))), .second, .val (.long (q2 &&& (9223372036854775807 : Int64))), .second, .val (.long sz), .second, .val (.ref b2), .unset, .unset] [.null, (.ref b2), .null, (.ref b8), (.ref b6), (.ref b4), (.ref b4)])) _
    refine st9.trans ?_
    show Steps p.tables e below (T9.setTop (mkF m 63 #[.val (.long q1), .second, .val (.long q2), .second, .val (.long q3), .second, .val (.int p4), .val (.long (q1 &&& (9223372036854775807 : Int64))), .second, .val (.long (q2 &&& (9223372036854775807 : Int64))), .second, .val (.long sz), .second, .val (.ref b2), .unset, .unset] [(.ref b4)])) _
    refine XS.astore X9.here hx rfl (hb hby at_63) rfl rfl (l' := #[.val (.long q1), .second, .val (.long q2), .second, .val (.long q3), .second, .val (.int p4), .val (.long (q1 &&& (9223372036854775807 : Int64))), .second, .val (.long (q2 &&& (9223372036854775807 : Int64))), .second, .val (.long sz), .second, .val (.ref b2), .val (.ref b4), .unset]) rfl ?_
    show Steps p.tables e below (T9.setTop (mkF m 65 #[.val (.long q1), .second, .val (.long q2), .second, .val (.long q3), .second, .val (.int p4), .val (.long (q1 &&& (9223372036854775807 : Int64))), .second, .val (.long (q2 &&& (9223372036854775807 : Int64))), .second, .val (.long sz), .second, .val (.ref b2), .val (.ref b4), .unset] [])) _
    refine XS.lload X9.here hx rfl (hb hby at_65) rfl ?_
    show Steps p.tables e below (T9.setTop (mkF m 67 #[.val (.long q1), .second, .val (.long q2), .second, .val (.long q3), .second, .val (.int p4), .val (.long (q1 &&& (9223372036854775807 : Int64))), .second, .val (.long (q2 &&& (9223372036854775807 : Int64))), .second, .val (.long sz), .second, .val (.ref b2), .val (.ref b4), .unset] [(.long (q1 &&& (9223372036854775807 : Int64)))])) _
    refine XS.lload X9.here hx rfl (hb hby at_67) rfl ?_
    show Steps p.tables e below (T9.setTop (mkF m 69 #[.val (.long q1), .second, .val (.long q2), .second, .val (.long q3), .second, .val (.int p4), .val (.long (q1 &&& (9223372036854775807 : Int64))), .second, .val (.long (q2 &&& (9223372036854775807 : Int64))), .second, .val (.long sz), .second, .val (.ref b2), .val (.ref b4), .unset] [(.long sz), (.long (q1 &&& (9223372036854775807 : Int64)))])) _
    refine XS.lcmp X9.here hx rfl (hb hby at_69) rfl ?_
    exact kt
  by_cases hc70 : (lcmpW (q1 &&& (9223372036854775807 : Int64)) sz) < (0 : Int32)
  · have pre_11 : ∀ t, Steps p.tables e below (T9.setTop (mkF m 87 #[.val (.long q1), .second, .val (.long q2), .second, .val (.long q3), .second, .val (.int p4), .val (.long (q1 &&& (9223372036854775807 : Int64))), .second, .val (.long (q2 &&& (9223372036854775807 : Int64))), .second, .val (.long sz), .second, .val (.ref b2), .val (.ref b4), .unset] [(.int (lcmpW (sz - (q1 &&& (9223372036854775807 : Int64))) (q2 &&& (9223372036854775807 : Int64))))])) t → Steps p.tables e below (s₁.setTop (entryFrame m #[(.long q1), (.long q2), (.long q3), (.int p4)] maxLocals)) t := by
      intro t kt
      refine pre_10 _ ?_
      show Steps p.tables e below (T9.setTop (mkF m 70 #[.val (.long q1), .second, .val (.long q2), .second, .val (.long q3), .second, .val (.int p4), .val (.long (q1 &&& (9223372036854775807 : Int64))), .second, .val (.long (q2 &&& (9223372036854775807 : Int64))), .second, .val (.long sz), .second, .val (.ref b2), .val (.ref b4), .unset] [(.int (lcmpW (q1 &&& (9223372036854775807 : Int64)) sz))])) _
      refine XS.ifYes X9.here hx rfl (pc0 := 70) (pc' := 79) rfl (hb hby at_70) rfl ((if0 _ _).trans (tlt hc70).1) (by decide) (by decide) ?_
      show Steps p.tables e below (T9.setTop (mkF m 79 #[.val (.long q1), .second, .val (.long q2), .second, .val (.long q3), .second, .val (.int p4), .val (.long (q1 &&& (9223372036854775807 : Int64))), .second, .val (.long (q2 &&& (9223372036854775807 : Int64))), .second, .val (.long sz), .second, .val (.ref b2), .val (.ref b4), .unset] [])) _
      refine XS.lload X9.here hx rfl (hb hby at_79) rfl ?_
      show Steps p.tables e below (T9.setTop (mkF m 81 #[.val (.long q1), .second, .val (.long q2), .second, .val (.long q3), .second, .val (.int p4), .val (.long (q1 &&& (9223372036854775807 : Int64))), .second, .val (.long (q2 &&& (9223372036854775807 : Int64))), .second, .val (.long sz), .second, .val (.ref b2), .val (.ref b4), .unset] [(.long sz)])) _
      refine XS.lload X9.here hx rfl (hb hby at_81) rfl ?_
      show Steps p.tables e below (T9.setTop (mkF m 83 #[.val (.long q1), .second, .val (.long q2), .second, .val (.long q3), .second, .val (.int p4), .val (.long (q1 &&& (9223372036854775807 : Int64))), .second, .val (.long (q2 &&& (9223372036854775807 : Int64))), .second, .val (.long sz), .second, .val (.ref b2), .val (.ref b4), .unset] [(.long (q1 &&& (9223372036854775807 : Int64))), (.long sz)])) _
      refine XS.lsub X9.here hx rfl (hb hby at_83) rfl ?_
      show Steps p.tables e below (T9.setTop (mkF m 84 #[.val (.long q1), .second, .val (.long q2), .second, .val (.long q3), .second, .val (.int p4), .val (.long (q1 &&& (9223372036854775807 : Int64))), .second, .val (.long (q2 &&& (9223372036854775807 : Int64))), .second, .val (.long sz), .second, .val (.ref b2), .val (.ref b4), .unset] [(.long (sz - (q1 &&& (9223372036854775807 : Int64))))])) _
      refine XS.lload X9.here hx rfl (hb hby at_84) rfl ?_
      show Steps p.tables e below (T9.setTop (mkF m 86 #[.val (.long q1), .second, .val (.long q2), .second, .val (.long q3), .second, .val (.int p4), .val (.long (q1 &&& (9223372036854775807 : Int64))), .second, .val (.long (q2 &&& (9223372036854775807 : Int64))), .second, .val (.long sz), .second, .val (.ref b2), .val (.ref b4), .unset] [(.long (q2 &&& (9223372036854775807 : Int64))), (.long (sz - (q1 &&& (9223372036854775807 : Int64))))])) _
      refine XS.lcmp X9.here hx rfl (hb hby at_86) rfl ?_
      exact kt
    by_cases hc87 : (0 : Int32) < (lcmpW (sz - (q1 &&& (9223372036854775807 : Int64))) (q2 &&& (9223372036854775807 : Int64)))
    · obtain ⟨cq12, kq12, q12a, q12b, q12c⟩ := isOf hZ rfl fk9_0
      obtain ⟨_, _, ⟨T12, L12, k12, n12⟩, -, X12, ⟨Lc12, hQ12, l12, y12, z12⟩, st12⟩ := X9.virtualBack hx (y := (⟨"com/example/poolwright/poolwright/PoolReport", "fits", "(J)Z"⟩ : MethodName)) (z := (⟨"com/example/poolwright/poolwright/PoolReport", "fits", "(J)Z"⟩ : MethodName)) hown (mvT hZ (hw _ (List.mem_of_getElem? (i := 59) rfl))) (mvT hZ (hw _ (List.mem_of_getElem? (i := 60) rfl))) (notFace_of_selects (args := #[]) (mvT hZ (hw _ (List.mem_of_getElem? (i := 62) rfl)))) (mvT hZ (hw _ (List.mem_of_getElem? (i := 62) rfl))) (mvT hZ (hw _ (List.mem_of_getElem? (i := 61) rfl))) (by decide) (backOf (W := 0) (rm_fi l Z a0 hw [] b4 sz b2 (q1 &&& (9223372036854775807 : Int64)) (q2 &&& (9223372036854775807 : Int64)) T9.heap n0 Z9 fk9_1 f29 f30 f31) hZ (hw _ (List.mem_of_getElem? (i := 63) rfl)) (hw _ (List.mem_of_getElem? (i := 35) rfl)) (by decide) (by decide)) q12a q12c (g := (mkF m 101 #[.val (.long q1), .second, .val (.long q2), .second, .val (.long q3), .second, .val (.int p4), .val (.long (q1 &&& (9223372036854775807 : Int64))), .second, .val (.long (q2 &&& (9223372036854775807 : Int64))), .second, .val (.long sz), .second, .val (.ref b2), .val (.ref b4), .val (.int (0 : Int32))] [(.long sz), (.ref b4)])) rfl (by rw [hml]; rfl) (Steps.refl _) (argsL := [(.long sz)]) (rest := []) (lenOf pd__J_Z_245 rfl) rfl (by show 2 * 0 + _ ≤ _; exact Nat.le_of_eq rfl) (hb hby at_101) (fun _ _ => ⟨rfl, rfl, (by decide : 6 + 0 ≤ _), (by decide : 27 + 0 ≤ _)⟩)
      dsimp only [Pt.U, Pt.locs, Pt.cells, Pt.slots] at X12 l12 y12 z12 st12 hQ12
      subst l12 y12 z12
      obtain ⟨rfl, N12q, e12⟩ := hQ12
      have N12 := Fr.app N9 N12q
      obtain ⟨fs, hr, hrun, hended, hRW⟩ := X12.leaveW (s := s) hS8 (by rw [e12]; exact f33) (v := some (.int (1 : Int32))) (fun h => by rw [Bd.returns] at h; cases h) (hlocks := Bd.notSynchronized)
      refine ⟨_, _, pre_11 _ ?_, hrun, hended, _, _, rfl, ?_, hRW.1, hRW.2.1, hRW.2.2.1, hRW.2.2.2.mono (by decide) (by decide)⟩
      · show Steps p.tables e below (T9.setTop (mkF m 87 #[.val (.long q1), .second, .val (.long q2), .second, .val (.long q3), .second, .val (.int p4), .val (.long (q1 &&& (9223372036854775807 : Int64))), .second, .val (.long (q2 &&& (9223372036854775807 : Int64))), .second, .val (.long sz), .second, .val (.ref b2), .val (.ref b4), .unset] [(.int (lcmpW (sz - (q1 &&& (9223372036854775807 : Int64))) (q2 &&& (9223372036854775807 : Int64))))])) _
        refine XS.ifYes X9.here hx rfl (pc0 := 87) (pc' := 94) rfl (hb hby at_87) rfl ((if0 _ _).trans (tlt hc87).2.2.1) (by decide) (by decide) ?_
        show Steps p.tables e below (T9.setTop (mkF m 94 #[.val (.long q1), .second, .val (.long q2), .second, .val (.long q3), .second, .val (.int p4), .val (.long (q1 &&& (9223372036854775807 : Int64))), .second, .val (.long (q2 &&& (9223372036854775807 : Int64))), .second, .val (.long sz), .second, .val (.ref b2), .val (.ref b4), .unset] [])) _
        refine XS.iconst X9.here hx rfl (hb hby at_94) ?_
        show Steps p.tables e below (T9.setTop (mkF m 95 #[.val (.long q1), .second, .val (.long q2), .second, .val (.long q3), .second, .val (.int p4), .val (.long (q1 &&& (9223372036854775807 : Int64))), .second, .val (.long (q2 &&& (9223372036854775807 : Int64))), .second, .val (.long sz), .second, .val (.ref b2), .val (.ref b4), .unset] [(.int (0 : Int32))])) _
        refine XS.istore X9.here hx rfl (hb hby at_95) rfl (l' := #[.val (.long q1), .second, .val (.long q2), .second, .val (.long q3), .second, .val (.int p4), .val (.long (q1 &&& (9223372036854775807 : Int64))), .second, .val (.long (q2 &&& (9223372036854775807 : Int64))), .second, .val (.long sz), .second, .val (.ref b2), .val (.ref b4), .val (.int (0 : Int32))]) rfl ?_
        show Steps p.tables e below (T9.setTop (mkF m 97 #[.val (.long q1), .second, .val (.long q2), .second, .val (.long q3), .second, .val (.int p4), .val (.long (q1 &&& (9223372036854775807 : Int64))), .second, .val (.long (q2 &&& (9223372036854775807 : Int64))), .second, .val (.long sz), .second, .val (.ref b2), .val (.ref b4), .val (.int (0 : Int32))] [])) _
        refine XS.aload X9.here hx rfl (hb hby at_97) rfl rfl ?_
        show Steps p.tables e below (T9.setTop (mkF m 99 #[.val (.long q1), .second, .val (.long q2), .second, .val (.long q3), .second, .val (.int p4), .val (.long (q1 &&& (9223372036854775807 : Int64))), .second, .val (.long (q2 &&& (9223372036854775807 : Int64))), .second, .val (.long sz), .second, .val (.ref b2), .val (.ref b4), .val (.int (0 : Int32))] [(.ref b4)])) _
        refine XS.lload X9.here hx rfl (hb hby at_99) rfl ?_
        show Steps p.tables e below (T9.setTop (mkF m 101 #[.val (.long q1), .second, .val (.long q2), .second, .val (.long q3), .second, .val (.int p4), .val (.long (q1 &&& (9223372036854775807 : Int64))), .second, .val (.long (q2 &&& (9223372036854775807 : Int64))), .second, .val (.long sz), .second, .val (.ref b2), .val (.ref b4), .val (.int (0 : Int32))] [(.long sz), (.ref b4)])) _
        refine st12.trans ?_
        show Steps p.tables e below (T12.setTop (mkF m 104 #[.val (.long q1), .second, .val (.long q2), .second, .val (.long q3), .second, .val (.int p4), .val (.long (q1 &&& (9223372036854775807 : Int64))), .second, .val (.long (q2 &&& (9223372036854775807 : Int64))), .second, .val (.long sz), .second, .val (.ref b2), .val (.ref b4), .val (.int (0 : Int32))] [(.int (own_fit (q1 &&& (9223372036854775807 : Int64)) (q2 &&& (9223372036854775807 : Int64)) sz))])) _
        refine XS.iload X12.here hx rfl (hb hby at_104) rfl ?_
        show Steps p.tables e below (T12.setTop (mkF m 106 #[.val (.long q1), .second, .val (.long q2), .second, .val (.long q3), .second, .val (.int p4), .val (.long (q1 &&& (9223372036854775807 : Int64))), .second, .val (.long (q2 &&& (9223372036854775807 : Int64))), .second, .val (.long sz), .second, .val (.ref b2), .val (.ref b4), .val (.int (0 : Int32))] [(.int (0 : Int32)), (.int (own_fit (q1 &&& (9223372036854775807 : Int64)) (q2 &&& (9223372036854775807 : Int64)) sz))])) _
        refine XS.icmpNo X12.here hx rfl (hb hby at_106) rfl (teq (own_f3 _ _ _ (own_mask _).1 (own_mask _).1 hsz hc87)).2 ?_
        show Steps p.tables e below (T12.setTop (mkF m 109 #[.val (.long q1), .second, .val (.long q2), .second, .val (.long q3), .second, .val (.int p4), .val (.long (q1 &&& (9223372036854775807 : Int64))), .second, .val (.long (q2 &&& (9223372036854775807 : Int64))), .second, .val (.long sz), .second, .val (.ref b2), .val (.ref b4), .val (.int (0 : Int32))] [])) _
        refine XS.iconst X12.here hx rfl (hb hby at_109) ?_
        show Steps p.tables e below (T12.setTop (mkF m 110 #[.val (.long q1), .second, .val (.long q2), .second, .val (.long q3), .second, .val (.int p4), .val (.long (q1 &&& (9223372036854775807 : Int64))), .second, .val (.long (q2 &&& (9223372036854775807 : Int64))), .second, .val (.long sz), .second, .val (.ref b2), .val (.ref b4), .val (.int (0 : Int32))] [(.int (1 : Int32))])) _
        refine XS.goto X12.here hx rfl (pc0 := 110) (pc' := 114) rfl (hb hby at_110) (by decide) (by decide) ?_
        show Steps p.tables e below (T12.setTop (mkF m 114 #[.val (.long q1), .second, .val (.long q2), .second, .val (.long q3), .second, .val (.int p4), .val (.long (q1 &&& (9223372036854775807 : Int64))), .second, .val (.long (q2 &&& (9223372036854775807 : Int64))), .second, .val (.long sz), .second, .val (.ref b2), .val (.ref b4), .val (.int (0 : Int32))] [(.int (1 : Int32))])) _
        exact retN X12 hx (t := .boolean) Bd.returns (by simp) (hb hby at_114) hr
      · show Q_rm0 Z q1 q2 q3 p4 h0 n0 _ T12.heap _
        rw [e12]
        exact ⟨rfl, N12⟩
    · obtain ⟨cq13, kq13, q13a, q13b, q13c⟩ := isOf hZ rfl fk9_0
      obtain ⟨_, _, ⟨T13, L13, k13, n13⟩, -, X13, ⟨Lc13, hQ13, l13, y13, z13⟩, st13⟩ := X9.virtualBack hx (y := (⟨"com/example/poolwright/poolwright/PoolReport", "fits", "(J)Z"⟩ : MethodName)) (z := (⟨"com/example/poolwright/poolwright/PoolReport", "fits", "(J)Z"⟩ : MethodName)) hown (mvT hZ (hw _ (List.mem_of_getElem? (i := 59) rfl))) (mvT hZ (hw _ (List.mem_of_getElem? (i := 60) rfl))) (notFace_of_selects (args := #[]) (mvT hZ (hw _ (List.mem_of_getElem? (i := 62) rfl)))) (mvT hZ (hw _ (List.mem_of_getElem? (i := 62) rfl))) (mvT hZ (hw _ (List.mem_of_getElem? (i := 61) rfl))) (by decide) (backOf (W := 0) (rm_fi l Z a0 hw [] b4 sz b2 (q1 &&& (9223372036854775807 : Int64)) (q2 &&& (9223372036854775807 : Int64)) T9.heap n0 Z9 fk9_1 f29 f30 f31) hZ (hw _ (List.mem_of_getElem? (i := 63) rfl)) (hw _ (List.mem_of_getElem? (i := 35) rfl)) (by decide) (by decide)) q13a q13c (g := (mkF m 101 #[.val (.long q1), .second, .val (.long q2), .second, .val (.long q3), .second, .val (.int p4), .val (.long (q1 &&& (9223372036854775807 : Int64))), .second, .val (.long (q2 &&& (9223372036854775807 : Int64))), .second, .val (.long sz), .second, .val (.ref b2), .val (.ref b4), .val (.int (1 : Int32))] [(.long sz), (.ref b4)])) rfl (by rw [hml]; rfl) (Steps.refl _) (argsL := [(.long sz)]) (rest := []) (lenOf pd__J_Z_245 rfl) rfl (by show 2 * 0 + _ ≤ _; exact Nat.le_of_eq rfl) (hb hby at_101) (fun _ _ => ⟨rfl, rfl, (by decide : 6 + 0 ≤ _), (by decide : 27 + 0 ≤ _)⟩)
      dsimp only [Pt.U, Pt.locs, Pt.cells, Pt.slots] at X13 l13 y13 z13 st13 hQ13
      subst l13 y13 z13
      obtain ⟨rfl, N13q, e13⟩ := hQ13
      have N13 := Fr.app N9 N13q
      obtain ⟨fs, hr, hrun, hended, hRW⟩ := X13.leaveW (s := s) hS8 (by rw [e13]; exact f33) (v := some (.int (1 : Int32))) (fun h => by rw [Bd.returns] at h; cases h) (hlocks := Bd.notSynchronized)
      refine ⟨_, _, pre_11 _ ?_, hrun, hended, _, _, rfl, ?_, hRW.1, hRW.2.1, hRW.2.2.1, hRW.2.2.2.mono (by decide) (by decide)⟩
      · show Steps p.tables e below (T9.setTop (mkF m 87 #[.val (.long q1), .second, .val (.long q2), .second, .val (.long q3), .second, .val (.int p4), .val (.long (q1 &&& (9223372036854775807 : Int64))), .second, .val (.long (q2 &&& (9223372036854775807 : Int64))), .second, .val (.long sz), .second, .val (.ref b2), .val (.ref b4), .unset] [(.int (lcmpW (sz - (q1 &&& (9223372036854775807 : Int64))) (q2 &&& (9223372036854775807 : Int64))))])) _
        refine XS.ifNo X9.here hx rfl (hb hby at_87) rfl ((if0 _ _).trans (flt hc87).2.2.1) ?_
        show Steps p.tables e below (T9.setTop (mkF m 90 #[.val (.long q1), .second, .val (.long q2), .second, .val (.long q3), .second, .val (.int p4), .val (.long (q1 &&& (9223372036854775807 : Int64))), .second, .val (.long (q2 &&& (9223372036854775807 : Int64))), .second, .val (.long sz), .second, .val (.ref b2), .val (.ref b4), .unset] [])) _
        refine XS.iconst X9.here hx rfl (hb hby at_90) ?_
        show Steps p.tables e below (T9.setTop (mkF m 91 #[.val (.long q1), .second, .val (.long q2), .second, .val (.long q3), .second, .val (.int p4), .val (.long (q1 &&& (9223372036854775807 : Int64))), .second, .val (.long (q2 &&& (9223372036854775807 : Int64))), .second, .val (.long sz), .second, .val (.ref b2), .val (.ref b4), .unset] [(.int (1 : Int32))])) _
        refine XS.goto X9.here hx rfl (pc0 := 91) (pc' := 95) rfl (hb hby at_91) (by decide) (by decide) ?_
        show Steps p.tables e below (T9.setTop (mkF m 95 #[.val (.long q1), .second, .val (.long q2), .second, .val (.long q3), .second, .val (.int p4), .val (.long (q1 &&& (9223372036854775807 : Int64))), .second, .val (.long (q2 &&& (9223372036854775807 : Int64))), .second, .val (.long sz), .second, .val (.ref b2), .val (.ref b4), .unset] [(.int (1 : Int32))])) _
        refine XS.istore X9.here hx rfl (hb hby at_95) rfl (l' := #[.val (.long q1), .second, .val (.long q2), .second, .val (.long q3), .second, .val (.int p4), .val (.long (q1 &&& (9223372036854775807 : Int64))), .second, .val (.long (q2 &&& (9223372036854775807 : Int64))), .second, .val (.long sz), .second, .val (.ref b2), .val (.ref b4), .val (.int (1 : Int32))]) rfl ?_
        show Steps p.tables e below (T9.setTop (mkF m 97 #[.val (.long q1), .second, .val (.long q2), .second, .val (.long q3), .second, .val (.int p4), .val (.long (q1 &&& (9223372036854775807 : Int64))), .second, .val (.long (q2 &&& (9223372036854775807 : Int64))), .second, .val (.long sz), .second, .val (.ref b2), .val (.ref b4), .val (.int (1 : Int32))] [])) _
        refine XS.aload X9.here hx rfl (hb hby at_97) rfl rfl ?_
        show Steps p.tables e below (T9.setTop (mkF m 99 #[.val (.long q1), .second, .val (.long q2), .second, .val (.long q3), .second, .val (.int p4), .val (.long (q1 &&& (9223372036854775807 : Int64))), .second, .val (.long (q2 &&& (9223372036854775807 : Int64))), .second, .val (.long sz), .second, .val (.ref b2), .val (.ref b4), .val (.int (1 : Int32))] [(.ref b4)])) _
        refine XS.lload X9.here hx rfl (hb hby at_99) rfl ?_
        show Steps p.tables e below (T9.setTop (mkF m 101 #[.val (.long q1), .second, .val (.long q2), .second, .val (.long q3), .second, .val (.int p4), .val (.long (q1 &&& (9223372036854775807 : Int64))), .second, .val (.long (q2 &&& (9223372036854775807 : Int64))), .second, .val (.long sz), .second, .val (.ref b2), .val (.ref b4), .val (.int (1 : Int32))] [(.long sz), (.ref b4)])) _
        refine st13.trans ?_
        show Steps p.tables e below (T13.setTop (mkF m 104 #[.val (.long q1), .second, .val (.long q2), .second, .val (.long q3), .second, .val (.int p4), .val (.long (q1 &&& (9223372036854775807 : Int64))), .second, .val (.long (q2 &&& (9223372036854775807 : Int64))), .second, .val (.long sz), .second, .val (.ref b2), .val (.ref b4), .val (.int (1 : Int32))] [(.int (own_fit (q1 &&& (9223372036854775807 : Int64)) (q2 &&& (9223372036854775807 : Int64)) sz))])) _
        refine XS.iload X13.here hx rfl (hb hby at_104) rfl ?_
        show Steps p.tables e below (T13.setTop (mkF m 106 #[.val (.long q1), .second, .val (.long q2), .second, .val (.long q3), .second, .val (.int p4), .val (.long (q1 &&& (9223372036854775807 : Int64))), .second, .val (.long (q2 &&& (9223372036854775807 : Int64))), .second, .val (.long sz), .second, .val (.ref b2), .val (.ref b4), .val (.int (1 : Int32))] [(.int (1 : Int32)), (.int (own_fit (q1 &&& (9223372036854775807 : Int64)) (q2 &&& (9223372036854775807 : Int64)) sz))])) _
        refine XS.icmpNo X13.here hx rfl (hb hby at_106) rfl (teq (own_f2 _ _ _ (own_mask _).1 (own_mask _).1 hsz hc87)).2 ?_
        show Steps p.tables e below (T13.setTop (mkF m 109 #[.val (.long q1), .second, .val (.long q2), .second, .val (.long q3), .second, .val (.int p4), .val (.long (q1 &&& (9223372036854775807 : Int64))), .second, .val (.long (q2 &&& (9223372036854775807 : Int64))), .second, .val (.long sz), .second, .val (.ref b2), .val (.ref b4), .val (.int (1 : Int32))] [])) _
        refine XS.iconst X13.here hx rfl (hb hby at_109) ?_
        show Steps p.tables e below (T13.setTop (mkF m 110 #[.val (.long q1), .second, .val (.long q2), .second, .val (.long q3), .second, .val (.int p4), .val (.long (q1 &&& (9223372036854775807 : Int64))), .second, .val (.long (q2 &&& (9223372036854775807 : Int64))), .second, .val (.long sz), .second, .val (.ref b2), .val (.ref b4), .val (.int (1 : Int32))] [(.int (1 : Int32))])) _
        refine XS.goto X13.here hx rfl (pc0 := 110) (pc' := 114) rfl (hb hby at_110) (by decide) (by decide) ?_
        show Steps p.tables e below (T13.setTop (mkF m 114 #[.val (.long q1), .second, .val (.long q2), .second, .val (.long q3), .second, .val (.int p4), .val (.long (q1 &&& (9223372036854775807 : Int64))), .second, .val (.long (q2 &&& (9223372036854775807 : Int64))), .second, .val (.long sz), .second, .val (.ref b2), .val (.ref b4), .val (.int (1 : Int32))] [(.int (1 : Int32))])) _
        exact retN X13 hx (t := .boolean) Bd.returns (by simp) (hb hby at_114) hr
      · show Q_rm0 Z q1 q2 q3 p4 h0 n0 _ T13.heap _
        rw [e13]
        exact ⟨rfl, N13⟩
  · obtain ⟨cq14, kq14, q14a, q14b, q14c⟩ := isOf hZ rfl fk9_0
    obtain ⟨_, _, ⟨T14, L14, k14, n14⟩, -, X14, ⟨Lc14, hQ14, l14, y14, z14⟩, st14⟩ := X9.virtualBack hx (y := (⟨"com/example/poolwright/poolwright/PoolReport", "fits", "(J)Z"⟩ : MethodName)) (z := (⟨"com/example/poolwright/poolwright/PoolReport", "fits", "(J)Z"⟩ : MethodName)) hown (mvT hZ (hw _ (List.mem_of_getElem? (i := 59) rfl))) (mvT hZ (hw _ (List.mem_of_getElem? (i := 60) rfl))) (notFace_of_selects (args := #[]) (mvT hZ (hw _ (List.mem_of_getElem? (i := 62) rfl)))) (mvT hZ (hw _ (List.mem_of_getElem? (i := 62) rfl))) (mvT hZ (hw _ (List.mem_of_getElem? (i := 61) rfl))) (by decide) (backOf (W := 0) (rm_fi l Z a0 hw [] b4 sz b2 (q1 &&& (9223372036854775807 : Int64)) (q2 &&& (9223372036854775807 : Int64)) T9.heap n0 Z9 fk9_1 f29 f30 f31) hZ (hw _ (List.mem_of_getElem? (i := 63) rfl)) (hw _ (List.mem_of_getElem? (i := 35) rfl)) (by decide) (by decide)) q14a q14c (g := (mkF m 101 #[.val (.long q1), .second, .val (.long q2), .second, .val (.long q3), .second, .val (.int p4), .val (.long (q1 &&& (9223372036854775807 : Int64))), .second, .val (.long (q2 &&& (9223372036854775807 : Int64))), .second, .val (.long sz), .second, .val (.ref b2), .val (.ref b4), .val (.int (1 : Int32))] [(.long sz), (.ref b4)])) rfl (by rw [hml]; rfl) (Steps.refl _) (argsL := [(.long sz)]) (rest := []) (lenOf pd__J_Z_245 rfl) rfl (by show 2 * 0 + _ ≤ _; exact Nat.le_of_eq rfl) (hb hby at_101) (fun _ _ => ⟨rfl, rfl, (by decide : 6 + 0 ≤ _), (by decide : 27 + 0 ≤ _)⟩)
    dsimp only [Pt.U, Pt.locs, Pt.cells, Pt.slots] at X14 l14 y14 z14 st14 hQ14
    subst l14 y14 z14
    obtain ⟨rfl, N14q, e14⟩ := hQ14
    have N14 := Fr.app N9 N14q
    obtain ⟨fs, hr, hrun, hended, hRW⟩ := X14.leaveW (s := s) hS8 (by rw [e14]; exact f33) (v := some (.int (1 : Int32))) (fun h => by rw [Bd.returns] at h; cases h) (hlocks := Bd.notSynchronized)
    refine ⟨_, _, pre_10 _ ?_, hrun, hended, _, _, rfl, ?_, hRW.1, hRW.2.1, hRW.2.2.1, hRW.2.2.2.mono (by decide) (by decide)⟩
    · show Steps p.tables e below (T9.setTop (mkF m 70 #[.val (.long q1), .second, .val (.long q2), .second, .val (.long q3), .second, .val (.int p4), .val (.long (q1 &&& (9223372036854775807 : Int64))), .second, .val (.long (q2 &&& (9223372036854775807 : Int64))), .second, .val (.long sz), .second, .val (.ref b2), .val (.ref b4), .unset] [(.int (lcmpW (q1 &&& (9223372036854775807 : Int64)) sz))])) _
      refine XS.ifNo X9.here hx rfl (hb hby at_70) rfl ((if0 _ _).trans (flt hc70).1) ?_
      show Steps p.tables e below (T9.setTop (mkF m 73 #[.val (.long q1), .second, .val (.long q2), .second, .val (.long q3), .second, .val (.int p4), .val (.long (q1 &&& (9223372036854775807 : Int64))), .second, .val (.long (q2 &&& (9223372036854775807 : Int64))), .second, .val (.long sz), .second, .val (.ref b2), .val (.ref b4), .unset] [])) _
      refine XS.iconst X9.here hx rfl (hb hby at_73) ?_
      show Steps p.tables e below (T9.setTop (mkF m 74 #[.val (.long q1), .second, .val (.long q2), .second, .val (.long q3), .second, .val (.int p4), .val (.long (q1 &&& (9223372036854775807 : Int64))), .second, .val (.long (q2 &&& (9223372036854775807 : Int64))), .second, .val (.long sz), .second, .val (.ref b2), .val (.ref b4), .unset] [(.int (1 : Int32))])) _
      refine XS.istore X9.here hx rfl (hb hby at_74) rfl (l' := #[.val (.long q1), .second, .val (.long q2), .second, .val (.long q3), .second, .val (.int p4), .val (.long (q1 &&& (9223372036854775807 : Int64))), .second, .val (.long (q2 &&& (9223372036854775807 : Int64))), .second, .val (.long sz), .second, .val (.ref b2), .val (.ref b4), .val (.int (1 : Int32))]) rfl ?_
      show Steps p.tables e below (T9.setTop (mkF m 76 #[.val (.long q1), .second, .val (.long q2), .second, .val (.long q3), .second, .val (.int p4), .val (.long (q1 &&& (9223372036854775807 : Int64))), .second, .val (.long (q2 &&& (9223372036854775807 : Int64))), .second, .val (.long sz), .second, .val (.ref b2), .val (.ref b4), .val (.int (1 : Int32))] [])) _
      refine XS.goto X9.here hx rfl (pc0 := 76) (pc' := 97) rfl (hb hby at_76) (by decide) (by decide) ?_
      show Steps p.tables e below (T9.setTop (mkF m 97 #[.val (.long q1), .second, .val (.long q2), .second, .val (.long q3), .second, .val (.int p4), .val (.long (q1 &&& (9223372036854775807 : Int64))), .second, .val (.long (q2 &&& (9223372036854775807 : Int64))), .second, .val (.long sz), .second, .val (.ref b2), .val (.ref b4), .val (.int (1 : Int32))] [])) _
      refine XS.aload X9.here hx rfl (hb hby at_97) rfl rfl ?_
      show Steps p.tables e below (T9.setTop (mkF m 99 #[.val (.long q1), .second, .val (.long q2), .second, .val (.long q3), .second, .val (.int p4), .val (.long (q1 &&& (9223372036854775807 : Int64))), .second, .val (.long (q2 &&& (9223372036854775807 : Int64))), .second, .val (.long sz), .second, .val (.ref b2), .val (.ref b4), .val (.int (1 : Int32))] [(.ref b4)])) _
      refine XS.lload X9.here hx rfl (hb hby at_99) rfl ?_
      show Steps p.tables e below (T9.setTop (mkF m 101 #[.val (.long q1), .second, .val (.long q2), .second, .val (.long q3), .second, .val (.int p4), .val (.long (q1 &&& (9223372036854775807 : Int64))), .second, .val (.long (q2 &&& (9223372036854775807 : Int64))), .second, .val (.long sz), .second, .val (.ref b2), .val (.ref b4), .val (.int (1 : Int32))] [(.long sz), (.ref b4)])) _
      refine st14.trans ?_
      show Steps p.tables e below (T14.setTop (mkF m 104 #[.val (.long q1), .second, .val (.long q2), .second, .val (.long q3), .second, .val (.int p4), .val (.long (q1 &&& (9223372036854775807 : Int64))), .second, .val (.long (q2 &&& (9223372036854775807 : Int64))), .second, .val (.long sz), .second, .val (.ref b2), .val (.ref b4), .val (.int (1 : Int32))] [(.int (own_fit (q1 &&& (9223372036854775807 : Int64)) (q2 &&& (9223372036854775807 : Int64)) sz))])) _
      refine XS.iload X14.here hx rfl (hb hby at_104) rfl ?_
      show Steps p.tables e below (T14.setTop (mkF m 106 #[.val (.long q1), .second, .val (.long q2), .second, .val (.long q3), .second, .val (.int p4), .val (.long (q1 &&& (9223372036854775807 : Int64))), .second, .val (.long (q2 &&& (9223372036854775807 : Int64))), .second, .val (.long sz), .second, .val (.ref b2), .val (.ref b4), .val (.int (1 : Int32))] [(.int (1 : Int32)), (.int (own_fit (q1 &&& (9223372036854775807 : Int64)) (q2 &&& (9223372036854775807 : Int64)) sz))])) _
      refine XS.icmpNo X14.here hx rfl (hb hby at_106) rfl (teq (own_f1 _ _ _ (own_mask _).1 (own_mask _).1 hsz hc70)).2 ?_
      show Steps p.tables e below (T14.setTop (mkF m 109 #[.val (.long q1), .second, .val (.long q2), .second, .val (.long q3), .second, .val (.int p4), .val (.long (q1 &&& (9223372036854775807 : Int64))), .second, .val (.long (q2 &&& (9223372036854775807 : Int64))), .second, .val (.long sz), .second, .val (.ref b2), .val (.ref b4), .val (.int (1 : Int32))] [])) _
      refine XS.iconst X14.here hx rfl (hb hby at_109) ?_
      show Steps p.tables e below (T14.setTop (mkF m 110 #[.val (.long q1), .second, .val (.long q2), .second, .val (.long q3), .second, .val (.int p4), .val (.long (q1 &&& (9223372036854775807 : Int64))), .second, .val (.long (q2 &&& (9223372036854775807 : Int64))), .second, .val (.long sz), .second, .val (.ref b2), .val (.ref b4), .val (.int (1 : Int32))] [(.int (1 : Int32))])) _
      refine XS.goto X14.here hx rfl (pc0 := 110) (pc' := 114) rfl (hb hby at_110) (by decide) (by decide) ?_
      show Steps p.tables e below (T14.setTop (mkF m 114 #[.val (.long q1), .second, .val (.long q2), .second, .val (.long q3), .second, .val (.int p4), .val (.long (q1 &&& (9223372036854775807 : Int64))), .second, .val (.long (q2 &&& (9223372036854775807 : Int64))), .second, .val (.long sz), .second, .val (.ref b2), .val (.ref b4), .val (.int (1 : Int32))] [(.int (1 : Int32))])) _
      exact retN X14 hx (t := .boolean) Bd.returns (by simp) (hb hby at_114) hr
    · show Q_rm0 Z q1 q2 q3 p4 h0 n0 _ T14.heap _
      rw [e14]
      exact ⟨rfl, N14⟩
set_option maxRecDepth 65536 in
set_option maxHeartbeats 40000000 in
theorem comes_1 {Post : Tables → Env → Array Value → State → Outcome → State → Prop} (hpost : ∀ tb e args s v u, (limb_1_1.after args s (.returned v) u = true ∧ limb_1_2.after args s (.returned v) u = true ∧ True) → ReturnedEndW s (.returned v) u (Jvm.fieldLocs frame_1_writes args s ++ Jvm.arrayLocs frame_1_arrays args s ++ Jvm.staticLocs frame_1_statics s) 16 2176 → Post tb e args s (.returned v) u) :
    ArmFor flags0 classFile x code maxLocals ret World_1 tables_1 room_1 Calls_1 rest_1 Pre_1 Post := by
  intro l hfl _ _ p e ha hc hk s m args below hf hA hF happ hP
  obtain ⟨hcalls, hrest, hpre⟩ := hP
  obtain ⟨-, -, -, hnamed, -, -, -, hat⟩ := (Spec.applies_iff hf).mp happ
  obtain ⟨hg, hn⟩ := and_e (Cond.before_iff.mp (show (Jvm.Cond.and given_1 narrow_1).before args s = true from hpre))
  obtain ⟨hcount, hga0⟩ := and_e hg
  obtain ⟨hi0, hga1⟩ := and_e hga0
  obtain ⟨hi1, hga2⟩ := and_e hga1
  obtain ⟨hi2, hga3⟩ := and_e hga2
  have hi3 := hga3
  obtain ⟨w0, w1, w2, w3, rfl⟩ : ∃ w0 w1 w2 w3 : Value, args = #[w0, w1, w2, w3] := by
    have hs : args.size = 4 := by simpa [Cond.value, given_1] using hcount
    obtain ⟨L⟩ := args
    match L, hs with
    | [w0, w1, w2, w3], _ => exact ⟨w0, w1, w2, w3, rfl⟩
  have hw := fun d (hd : d ∈ tables_1) => atoms_spec (ws := Jvm.Cond.code x code maxLocals ret :: tables_1) hat d (List.mem_cons_of_mem _ hd)
  obtain ⟨i0, ei0⟩ := isL_v hi0
  obtain rfl : w0 = (.long i0) := Option.some.inj ei0
  obtain ⟨i1, ei1⟩ := isL_v hi1
  obtain rfl : w1 = (.long i1) := Option.some.inj ei1
  obtain ⟨i2, ei2⟩ := isL_v hi2
  obtain rfl : w2 = (.long i2) := Option.some.inj ei2
  obtain ⟨i3, ei3⟩ := is_v hi3
  obtain rfl : w3 = (.int i3) := Option.some.inj ei3
  obtain ⟨n, o, h1, h2, h3, _, L, rfl, ⟨rfl, N⟩, hq⟩ := rm0 l s _ hw tables_1 i0 i1 i2 i3  s.heap s.heap.size (Nat.le_refl _)  p e ha hc hk s m _ below hf ((Spec.applies_iff_loose hf).mp happ).1 ⟨rfl, State.Warmed39.refl s, rfl⟩ trivial
  refine ⟨n, _, h1, h2, h3, hpost _ _ _ _ _ _ ⟨Cond.after_iff.mpr rfl, Cond.after_iff.mpr (eq_i res_at (Term.int_eval (1)) rfl), trivial⟩ ⟨hq.1, hq.2.1, hq.2.2.1, (hq.2.2.2.sift fun y hy => Or.inr (N y hy)).mono (by decide) (by decide)⟩⟩
theorem main_1_1 : Claimed_1_1 := comes_1 fun _ _ _ _ _ _ h hF => ⟨h.1, hF⟩
theorem main_1_2 : Claimed_1_2 := comes_1 fun _ _ _ _ _ _ h hF => ⟨h.2.1, hF⟩
end Jvm.Pilot.@@N@@
namespace Jvm.Pilot.@@N@@
open Jvm Jvm.ClassFile Sem Op Lib Jvm.Free Jvm.Stand Jvm.Pilot.@@N@@.Jvm.D
/-! MADE BY PROGRAM (witnessworld.py) out of the Statement's table words and the real class files: 17 classes; the members and pool entries that the words name. The judged class is class 1, her method 2. -/
namespace start1
open Jvm.ClassFile
def u (s : String) : CpInfo := .utf8 (stringToUtf16 s)
/-- a pool by its gaps: so many unusable entries, then the entry; so many at the end -/
def gap : Nat → List CpInfo → List CpInfo
  | 0, r => r
  | n + 1, r => .unusable :: gap n r
def poolList (es : List (Nat × CpInfo)) (last : Nat) : List CpInfo := es.foldr (fun e r => gap e.1 (e.2 :: r)) (gap last [])
def pool (es : List (Nat × CpInfo)) (last : Nat) : Array CpInfo := ⟨poolList es last⟩
def fileOf (pool : Array CpInfo) (this : Nat) (attrs : Array Attribute := #[]) (ms : Array MethodInfo := #[]) (fl : Nat := 33) (sup : Nat := 0) (ifs : Array Nat := #[]) (fds : Array FieldInfo := #[]) : ClassFile where
  minorVersion := 0
  majorVersion := 65
  constantPool := pool
  accessFlags := fl
  thisClass := this
  superClass := sup
  interfaces := ifs
  fields := fds
  methods := ms
  attributes := attrs
def plain (name : String) (sup : Option ClassId) : Class where
  name := name
  kind := .ordinary
  loader := none
  accessFlags := 33
  super := sup
  interfaces := #[]
  cf := none
  fields := #[]
  methods := #[]
  instanceTypes := #[]
  staticTypes := #[]
  resolved := #[]
  callSites := []
  init := .initialized
  statics := none
  mirror := none

def pool0 : Array CpInfo := pool [(5, u "<init>"), (0, u "()V"), (1, .class_ 10), (1, u "java/lang/Object")] 113

def k0c0 : Code := { maxStack := 0, maxLocals := 1, code := object_method_1_code, exceptionTable := #[], attributes := #[] }
def k0m0 : Method := { name := "<init>", desc := "()V", sig := { parameters := [], returnType := none }, accessFlags := 1, code := some k0c0 }
/-- java/lang/Object -/
def k0 : Class := { plain "java/lang/Object" none with
  accessFlags := 33
  interfaces := #[]
  cf := some (fileOf pool0 8 #[] #[{ accessFlags := 1, nameIndex := 5, descriptorIndex := 6, attributes := #[] }] 33 0 #[] #[])
  fields := #[]
  methods := #[k0m0]
  instanceTypes := #[]
  staticTypes := #[]
  resolved := Array.replicate 124 none
  statics := none }

def pool1 : Array CpInfo := pool [(2, .class_ 4), (1, u "java/lang/Object"), (0, u "<init>"), (0, u "()V"), (2, .long 9223372036854775807), (1, .methodref 12 13), (0, .class_ 14), (0, .nameAndType 15 16), (0, u "java/lang/Math"), (0, u "max"), (0, u "(JJ)J"), (0, .methodref 18 19), (0, .class_ 20), (0, .nameAndType 21 22), (0, u "com/example/poolwright/poolwright/PoolReportFitsPinLaw"), (0, u "pickSize"), (0, u "(JJJI)J"), (0, .class_ 24), (0, u "com/example/poolwright/poolwright/PoolReport$Space"), (0, .long 10), (1, .long 4294967296), (1, .methodref 23 30), (0, .nameAndType 5 31), (0, u "(JJJDDJ)V"), (0, .class_ 33), (0, u "com/example/poolwright/poolwright/PoolReport"), (0, .string 35), (0, u "p"), (0, .string 37), (0, u "h"), (0, .methodref 32 39), (0, .nameAndType 5 40), (0, u "(Ljava/lang/String;Ljava/lang/String;Ljava/util/Map;Lcom/example/poolwright/poolwright/PoolReport$Space;Ljava/util/Set;)V"), (0, .methodref 32 42), (0, .nameAndType 43 44), (0, u "fits"), (0, u "(J)Z"), (3, u "law"), (0, u "(JJJI)Z")] 4

def k1m0 : Method := { name := "<init>", desc := "()V", sig := { parameters := [], returnType := none }, accessFlags := 1, code := none }
def k1c1 : Code := { maxStack := 6, maxLocals := 12, code := method_2_code, exceptionTable := #[], attributes := #[] }
def k1m1 : Method := { name := "pickSize", desc := "(JJJI)J", sig := { parameters := [.long, .long, .long, .int], returnType := some .long }, accessFlags := 10, code := some k1c1 }
def k1c2 : Code := { maxStack := 14, maxLocals := 16, code := code, exceptionTable := #[], attributes := #[] }
def k1m2 : Method := { name := "law", desc := "(JJJI)Z", sig := { parameters := [.long, .long, .long, .int], returnType := some .boolean }, accessFlags := 9, code := some k1c2 }
/-- com/example/poolwright/poolwright/PoolReportFitsPinLaw -/
def k1 : Class := { plain "com/example/poolwright/poolwright/PoolReportFitsPinLaw" (some 0) with
  accessFlags := 49
  interfaces := #[]
  cf := some (fileOf pool1 18 #[] #[{ accessFlags := 1, nameIndex := 5, descriptorIndex := 6, attributes := #[] }, { accessFlags := 10, nameIndex := 21, descriptorIndex := 22, attributes := #[] }, { accessFlags := 9, nameIndex := 48, descriptorIndex := 49, attributes := #[] }] 49 2 #[] #[])
  fields := #[]
  methods := #[k1m0, k1m1, k1m2]
  instanceTypes := #[]
  staticTypes := #[]
  resolved := Array.replicate 54 none
  statics := none }

def pool2 : Array CpInfo := pool [(1, .methodref 2 3), (0, .class_ 4), (0, .nameAndType 5 6), (0, u "java/lang/Object"), (0, u "<init>"), (0, u "()V"), (0, .class_ 8), (0, u "java/lang/Record")] 13

def k2c0 : Code := { maxStack := 1, maxLocals := 1, code := jdk_30_method_1_code, exceptionTable := #[], attributes := #[] }
def k2m0 : Method := { name := "<init>", desc := "()V", sig := { parameters := [], returnType := none }, accessFlags := 4, code := some k2c0 }
/-- java/lang/Record -/
def k2 : Class := { plain "java/lang/Record" (some 0) with
  accessFlags := 1057
  interfaces := #[]
  cf := some (fileOf pool2 7 #[] #[{ accessFlags := 4, nameIndex := 5, descriptorIndex := 6, attributes := #[] }] 1057 2 #[] #[])
  fields := #[]
  methods := #[k2m0]
  instanceTypes := #[]
  staticTypes := #[]
  resolved := Array.replicate 22 none
  statics := none }

def pool3 : Array CpInfo := pool [(1, .methodref 2 3), (0, .class_ 4), (0, .nameAndType 5 6), (0, u "java/lang/Record"), (0, u "<init>"), (0, u "()V"), (0, .fieldref 8 9), (0, .class_ 10), (0, .nameAndType 11 12), (0, u "com/example/poolwright/poolwright/PoolReport$Space"), (0, u "total"), (0, u "J"), (0, .fieldref 8 14), (0, .nameAndType 15 12), (0, u "free"), (0, .fieldref 8 17), (0, .nameAndType 18 12), (0, u "removable"), (0, .fieldref 8 20), (0, .nameAndType 21 22), (0, u "breakeven"), (0, u "D"), (0, .fieldref 8 24), (0, .nameAndType 25 22), (0, u "lruSeconds"), (0, .fieldref 8 27), (0, .nameAndType 28 12), (0, u "gap"), (8, u "(JJJDDJ)V"), (12, u "DEFAULT_GAP"), (11, u "()J"), (4, .class_ 68), (0, u "com/example/poolwright/poolwright/PoolReport")] 24

def k3c0 : Code := { maxStack := 3, maxLocals := 13, code := prog_37_method_1_code, exceptionTable := #[], attributes := #[] }
def k3m0 : Method := { name := "<init>", desc := "(JJJDDJ)V", sig := { parameters := [.long, .long, .long, .double, .double, .long], returnType := none }, accessFlags := 0, code := some k3c0 }
def k3c1 : Code := { maxStack := 2, maxLocals := 1, code := prog_37_method_7_code, exceptionTable := #[], attributes := #[] }
def k3m1 : Method := { name := "free", desc := "()J", sig := { parameters := [], returnType := some .long }, accessFlags := 1, code := some k3c1 }
def k3c2 : Code := { maxStack := 2, maxLocals := 1, code := prog_37_method_8_code, exceptionTable := #[], attributes := #[] }
def k3m2 : Method := { name := "removable", desc := "()J", sig := { parameters := [], returnType := some .long }, accessFlags := 1, code := some k3c2 }
/-- com/example/poolwright/poolwright/PoolReport$Space -/
def k3 : Class := { plain "com/example/poolwright/poolwright/PoolReport$Space" (some 2) with
  accessFlags := 48
  interfaces := #[]
  cf := some (fileOf pool3 8 #[.nestHost 67] #[{ accessFlags := 0, nameIndex := 5, descriptorIndex := 37, attributes := #[] }, { accessFlags := 1, nameIndex := 15, descriptorIndex := 62, attributes := #[] }, { accessFlags := 1, nameIndex := 18, descriptorIndex := 62, attributes := #[] }] 48 2 #[] #[{ accessFlags := 18, nameIndex := 11, descriptorIndex := 12, attributes := #[] }, { accessFlags := 18, nameIndex := 15, descriptorIndex := 12, attributes := #[] }, { accessFlags := 18, nameIndex := 18, descriptorIndex := 12, attributes := #[] }, { accessFlags := 18, nameIndex := 21, descriptorIndex := 22, attributes := #[] }, { accessFlags := 18, nameIndex := 25, descriptorIndex := 22, attributes := #[] }, { accessFlags := 18, nameIndex := 28, descriptorIndex := 12, attributes := #[] }, { accessFlags := 24, nameIndex := 50, descriptorIndex := 12, attributes := #[] }])
  fields := #[{ name := "total", type := .long, accessFlags := 18, slot := 0, constantValue := 0 }, { name := "free", type := .long, accessFlags := 18, slot := 1, constantValue := 0 }, { name := "removable", type := .long, accessFlags := 18, slot := 2, constantValue := 0 }, { name := "breakeven", type := .double, accessFlags := 18, slot := 3, constantValue := 0 }, { name := "lruSeconds", type := .double, accessFlags := 18, slot := 4, constantValue := 0 }, { name := "gap", type := .long, accessFlags := 18, slot := 5, constantValue := 0 }, { name := "DEFAULT_GAP", type := .long, accessFlags := 24, slot := 0, constantValue := 0 }]
  methods := #[k3m0, k3m1, k3m2]
  instanceTypes := #[.long, .long, .long, .double, .double, .long]
  staticTypes := #[.long]
  resolved := Array.replicate 93 none
  statics := none }

def pool4 : Array CpInfo := pool [(1, .methodref 2 3), (0, .class_ 4), (0, .nameAndType 5 6), (0, u "java/lang/Record"), (0, u "<init>"), (0, u "()V"), (0, .fieldref 8 9), (0, .class_ 10), (0, .nameAndType 11 12), (0, u "com/example/poolwright/poolwright/PoolReport"), (0, u "pool"), (0, u "Ljava/lang/String;"), (0, .fieldref 8 14), (0, .nameAndType 15 12), (0, u "host"), (0, .fieldref 8 17), (0, .nameAndType 18 19), (0, u "movers"), (0, u "Ljava/util/Map;"), (0, .fieldref 8 21), (0, .nameAndType 22 23), (0, u "space"), (0, u "Lcom/example/poolwright/poolwright/PoolReport$Space;"), (0, .fieldref 8 25), (0, .nameAndType 26 27), (0, u "mode"), (0, u "Ljava/util/Set;"), (11, .class_ 40), (0, u "com/example/poolwright/poolwright/PoolReport$Movers"), (15, .class_ 58), (1, u "com/example/poolwright/poolwright/PoolReport$Space"), (4, u "(Ljava/lang/String;Ljava/lang/String;Ljava/util/Map;Lcom/example/poolwright/poolwright/PoolReport$Space;Ljava/util/Set;)V"), (34, .class_ 100), (1, u "com/example/poolwright/poolwright/PoolReport$MoverKind"), (47, .methodref 56 149), (0, .nameAndType 150 151), (0, u "free"), (0, u "()J"), (14, .methodref 56 167), (0, .nameAndType 168 151), (0, u "removable"), (50, u "ONE_WEEK_SECONDS"), (0, u "D"), (1, u "MINIMUM_AGE_SECONDS"), (12, u "fits"), (0, u "(J)Z")] 88

def k4c0 : Code := { maxStack := 2, maxLocals := 6, code := prog_34_method_1_code, exceptionTable := #[], attributes := #[] }
def k4m0 : Method := { name := "<init>", desc := "(Ljava/lang/String;Ljava/lang/String;Ljava/util/Map;Lcom/example/poolwright/poolwright/PoolReport$Space;Ljava/util/Set;)V", sig := { parameters := [(.object "java/lang/String"), (.object "java/lang/String"), (.object "java/util/Map"), (.object "com/example/poolwright/poolwright/PoolReport$Space"), (.object "java/util/Set")], returnType := none }, accessFlags := 0, code := some k4c0 }
def k4c1 : Code := { maxStack := 6, maxLocals := 3, code := prog_34_method_8_code, exceptionTable := #[], attributes := #[] }
def k4m1 : Method := { name := "fits", desc := "(J)Z", sig := { parameters := [.long], returnType := some .boolean }, accessFlags := 0, code := some k4c1 }
/-- com/example/poolwright/poolwright/PoolReport -/
def k4 : Class := { plain "com/example/poolwright/poolwright/PoolReport" (some 2) with
  accessFlags := 48
  interfaces := #[]
  cf := some (fileOf pool4 8 #[.nestMembers #[56, 39, 98]] #[{ accessFlags := 0, nameIndex := 5, descriptorIndex := 63, attributes := #[] }, { accessFlags := 0, nameIndex := 235, descriptorIndex := 236, attributes := #[] }] 48 2 #[] #[{ accessFlags := 18, nameIndex := 11, descriptorIndex := 12, attributes := #[] }, { accessFlags := 18, nameIndex := 15, descriptorIndex := 12, attributes := #[] }, { accessFlags := 18, nameIndex := 18, descriptorIndex := 19, attributes := #[] }, { accessFlags := 18, nameIndex := 22, descriptorIndex := 23, attributes := #[] }, { accessFlags := 18, nameIndex := 26, descriptorIndex := 27, attributes := #[] }, { accessFlags := 26, nameIndex := 219, descriptorIndex := 220, attributes := #[] }, { accessFlags := 26, nameIndex := 222, descriptorIndex := 220, attributes := #[] }])
  fields := #[{ name := "pool", type := (.object "java/lang/String"), accessFlags := 18, slot := 0, constantValue := 0 }, { name := "host", type := (.object "java/lang/String"), accessFlags := 18, slot := 1, constantValue := 0 }, { name := "movers", type := (.object "java/util/Map"), accessFlags := 18, slot := 2, constantValue := 0 }, { name := "space", type := (.object "com/example/poolwright/poolwright/PoolReport$Space"), accessFlags := 18, slot := 3, constantValue := 0 }, { name := "mode", type := (.object "java/util/Set"), accessFlags := 18, slot := 4, constantValue := 0 }, { name := "ONE_WEEK_SECONDS", type := .double, accessFlags := 26, slot := 0, constantValue := 0 }, { name := "MINIMUM_AGE_SECONDS", type := .double, accessFlags := 26, slot := 1, constantValue := 0 }]
  methods := #[k4m0, k4m1]
  instanceTypes := #[(.object "java/lang/String"), (.object "java/lang/String"), (.object "java/util/Map"), (.object "com/example/poolwright/poolwright/PoolReport$Space"), (.object "java/util/Set")]
  staticTypes := #[.double, .double]
  resolved := Array.replicate 325 none
  statics := none }

def pool5 : Array CpInfo := pool [(1, .class_ 2), (0, u "java/io/Serializable"), (0, .class_ 4), (0, u "java/lang/Object")] 2

/-- java/io/Serializable -/
def k5 : Class := { plain "java/io/Serializable" (some 0) with
  accessFlags := 1537
  interfaces := #[]
  cf := some (fileOf pool5 1 #[] #[] 1537 3 #[] #[])
  fields := #[]
  methods := #[]
  instanceTypes := #[]
  staticTypes := #[]
  resolved := Array.replicate 7 none
  statics := none }

def pool6 : Array CpInfo := pool [(1, .class_ 2), (0, u "java/lang/Comparable"), (0, .class_ 4), (0, u "java/lang/Object")] 7

/-- java/lang/Comparable -/
def k6 : Class := { plain "java/lang/Comparable" (some 0) with
  accessFlags := 1537
  interfaces := #[]
  cf := some (fileOf pool6 1 #[] #[] 1537 3 #[] #[])
  fields := #[]
  methods := #[]
  instanceTypes := #[]
  staticTypes := #[]
  resolved := Array.replicate 12 none
  statics := none }

def pool7 : Array CpInfo := pool [(2, .class_ 4), (1, u "java/lang/CharSequence"), (42, .class_ 48), (0, u "java/lang/CharSequence$1CodePointIterator"), (10, .class_ 60), (0, u "java/lang/CharSequence$1CharIterator"), (5, .class_ 67), (0, u "java/lang/Object")] 63

/-- java/lang/CharSequence -/
def k7 : Class := { plain "java/lang/CharSequence" (some 0) with
  accessFlags := 1537
  interfaces := #[]
  cf := some (fileOf pool7 2 #[.nestMembers #[47, 59]] #[] 1537 66 #[] #[])
  fields := #[]
  methods := #[]
  instanceTypes := #[]
  staticTypes := #[]
  resolved := Array.replicate 131 none
  statics := none }

def pool8 : Array CpInfo := pool [(1, .class_ 2), (0, u "java/lang/constant/Constable"), (0, .class_ 4), (0, u "java/lang/Object")] 6

/-- java/lang/constant/Constable -/
def k8 : Class := { plain "java/lang/constant/Constable" (some 0) with
  accessFlags := 1537
  interfaces := #[]
  cf := some (fileOf pool8 1 #[] #[] 1537 3 #[] #[])
  fields := #[]
  methods := #[]
  instanceTypes := #[]
  staticTypes := #[]
  resolved := Array.replicate 11 none
  statics := none }

def pool9 : Array CpInfo := pool [(1, .class_ 2), (0, u "java/lang/constant/ConstantDesc"), (0, .class_ 4), (0, u "java/lang/Object")] 32

/-- java/lang/constant/ConstantDesc -/
def k9 : Class := { plain "java/lang/constant/ConstantDesc" (some 0) with
  accessFlags := 1537
  interfaces := #[]
  cf := some (fileOf pool9 1 #[] #[] 1537 3 #[] #[])
  fields := #[]
  methods := #[]
  instanceTypes := #[]
  staticTypes := #[]
  resolved := Array.replicate 37 none
  statics := none }

def pool10 : Array CpInfo := pool [(2, .class_ 4), (1, u "java/lang/Object"), (0, u "<init>"), (0, u "()V"), (3, .class_ 12), (1, u "java/lang/String"), (0, u "value"), (0, u "[B"), (2, u "coder"), (0, u "B"), (2, u "hash"), (0, u "I"), (2, u "hashIsZero"), (0, u "Z"), (13, u "COMPACT_STRINGS"), (534, .class_ 576), (0, u "java/lang/CharSequence"), (22, u "CASE_INSENSITIVE_ORDER"), (0, u "Ljava/util/Comparator;"), (500, u "serialPersistentFields"), (0, u "[Ljava/io/ObjectStreamField;"), (0, .class_ 1104), (0, u "java/lang/String$CaseInsensitiveComparator"), (1, .class_ 1107), (0, u "java/io/Serializable"), (0, .class_ 1109), (0, u "java/lang/Comparable"), (0, .class_ 1111), (0, u "java/lang/constant/Constable"), (0, .class_ 1113), (0, u "java/lang/constant/ConstantDesc"), (2, u "serialVersionUID"), (0, u "J"), (3, u "REPL"), (0, u "C"), (2, u "LATIN1"), (1, u "UTF16")] 323

def k10m0 : Method := { name := "<init>", desc := "()V", sig := { parameters := [], returnType := none }, accessFlags := 1, code := none }
/-- java/lang/String -/
def k10 : Class := { plain "java/lang/String" (some 0) with
  accessFlags := 49
  interfaces := #[5, 6, 7, 8, 9]
  cf := some (fileOf pool10 10 #[.nestMembers #[1103]] #[{ accessFlags := 1, nameIndex := 5, descriptorIndex := 6, attributes := #[] }] 49 2 #[1106, 1108, 575, 1110, 1112] #[{ accessFlags := 18, nameIndex := 13, descriptorIndex := 14, attributes := #[] }, { accessFlags := 18, nameIndex := 17, descriptorIndex := 18, attributes := #[] }, { accessFlags := 2, nameIndex := 21, descriptorIndex := 22, attributes := #[] }, { accessFlags := 2, nameIndex := 25, descriptorIndex := 26, attributes := #[] }, { accessFlags := 26, nameIndex := 1116, descriptorIndex := 1117, attributes := #[] }, { accessFlags := 24, nameIndex := 40, descriptorIndex := 26, attributes := #[] }, { accessFlags := 26, nameIndex := 1101, descriptorIndex := 1102, attributes := #[] }, { accessFlags := 26, nameIndex := 1121, descriptorIndex := 1122, attributes := #[] }, { accessFlags := 25, nameIndex := 599, descriptorIndex := 600, attributes := #[] }, { accessFlags := 24, nameIndex := 1125, descriptorIndex := 18, attributes := #[] }, { accessFlags := 24, nameIndex := 1127, descriptorIndex := 18, attributes := #[] }])
  fields := #[{ name := "value", type := (.array .byte), accessFlags := 18, slot := 0, constantValue := 0 }, { name := "coder", type := .byte, accessFlags := 18, slot := 1, constantValue := 0 }, { name := "hash", type := .int, accessFlags := 2, slot := 2, constantValue := 0 }, { name := "hashIsZero", type := .boolean, accessFlags := 2, slot := 3, constantValue := 0 }, { name := "serialVersionUID", type := .long, accessFlags := 26, slot := 0, constantValue := 0 }, { name := "COMPACT_STRINGS", type := .boolean, accessFlags := 24, slot := 1, constantValue := 0 }, { name := "serialPersistentFields", type := (.array (.object "java/io/ObjectStreamField")), accessFlags := 26, slot := 2, constantValue := 0 }, { name := "REPL", type := .char, accessFlags := 26, slot := 3, constantValue := 0 }, { name := "CASE_INSENSITIVE_ORDER", type := (.object "java/util/Comparator"), accessFlags := 25, slot := 4, constantValue := 0 }, { name := "LATIN1", type := .byte, accessFlags := 24, slot := 5, constantValue := 0 }, { name := "UTF16", type := .byte, accessFlags := 24, slot := 6, constantValue := 0 }]
  methods := #[k10m0]
  instanceTypes := #[(.array .byte), .byte, .int, .boolean]
  staticTypes := #[.long, .boolean, (.array (.object "java/io/ObjectStreamField")), .char, (.object "java/util/Comparator"), .byte, .byte]
  resolved := Array.replicate 1451 none
  statics := none }

def pool11 : Array CpInfo := pool [(1, .class_ 2), (0, u "java/lang/Math"), (1, .class_ 6), (1, u "java/lang/Object"), (0, u "<init>"), (0, u "()V"), (89, .class_ 100), (1, u "java/lang/Math$RandomNumberGeneratorHolder"), (20, u "(JJ)J"), (50, u "negativeZeroFloatBits"), (0, u "J"), (2, u "negativeZeroDoubleBits"), (21, u "max"), (46, u "$assertionsDisabled"), (0, u "Z"), (91, u "twoToTheDoubleScaleDown"), (0, u "D"), (4, u "twoToTheDoubleScaleUp"), (9, u "E"), (3, u "PI"), (2, u "TAU"), (2, u "DEGREES_TO_RADIANS"), (0, u "RADIANS_TO_DEGREES")] 94

def k11m0 : Method := { name := "<init>", desc := "()V", sig := { parameters := [], returnType := none }, accessFlags := 2, code := none }
def k11c1 : Code := { maxStack := 4, maxLocals := 4, code := jdk_29_method_66_code, exceptionTable := #[], attributes := #[] }
def k11m1 : Method := { name := "max", desc := "(JJ)J", sig := { parameters := [.long, .long], returnType := some .long }, accessFlags := 9, code := some k11c1 }
/-- java/lang/Math -/
def k11 : Class := { plain "java/lang/Math" (some 0) with
  accessFlags := 49
  interfaces := #[]
  cf := some (fileOf pool11 1 #[.nestMembers #[98]] #[{ accessFlags := 2, nameIndex := 7, descriptorIndex := 8, attributes := #[] }, { accessFlags := 9, nameIndex := 198, descriptorIndex := 121, attributes := #[] }] 49 4 #[] #[{ accessFlags := 25, nameIndex := 354, descriptorIndex := 339, attributes := #[] }, { accessFlags := 25, nameIndex := 358, descriptorIndex := 339, attributes := #[] }, { accessFlags := 25, nameIndex := 361, descriptorIndex := 339, attributes := #[] }, { accessFlags := 26, nameIndex := 364, descriptorIndex := 339, attributes := #[] }, { accessFlags := 26, nameIndex := 365, descriptorIndex := 339, attributes := #[] }, { accessFlags := 26, nameIndex := 172, descriptorIndex := 173, attributes := #[] }, { accessFlags := 26, nameIndex := 176, descriptorIndex := 173, attributes := #[] }, { accessFlags := 8, nameIndex := 344, descriptorIndex := 339, attributes := #[] }, { accessFlags := 8, nameIndex := 338, descriptorIndex := 339, attributes := #[] }, { accessFlags := 4120, nameIndex := 245, descriptorIndex := 246, attributes := #[] }])
  fields := #[{ name := "E", type := .double, accessFlags := 25, slot := 0, constantValue := 0 }, { name := "PI", type := .double, accessFlags := 25, slot := 1, constantValue := 0 }, { name := "TAU", type := .double, accessFlags := 25, slot := 2, constantValue := 0 }, { name := "DEGREES_TO_RADIANS", type := .double, accessFlags := 26, slot := 3, constantValue := 0 }, { name := "RADIANS_TO_DEGREES", type := .double, accessFlags := 26, slot := 4, constantValue := 0 }, { name := "negativeZeroFloatBits", type := .long, accessFlags := 26, slot := 5, constantValue := 0 }, { name := "negativeZeroDoubleBits", type := .long, accessFlags := 26, slot := 6, constantValue := 0 }, { name := "twoToTheDoubleScaleUp", type := .double, accessFlags := 8, slot := 7, constantValue := 0 }, { name := "twoToTheDoubleScaleDown", type := .double, accessFlags := 8, slot := 8, constantValue := 0 }, { name := "$assertionsDisabled", type := .boolean, accessFlags := 4120, slot := 9, constantValue := 0 }]
  methods := #[k11m0, k11m1]
  instanceTypes := #[]
  staticTypes := #[.double, .double, .double, .double, .double, .long, .long, .double, .double, .boolean]
  resolved := Array.replicate 460 none
  statics := none }

def pool12 : Array CpInfo := pool [(1, u "java/lang/Cloneable"), (0, .class_ 1), (0, u "java/lang/Object"), (0, .class_ 3)] 3

/-- java/lang/Cloneable -/
def k12 : Class := { plain "java/lang/Cloneable" (some 0) with
  accessFlags := 1537
  interfaces := #[]
  cf := some (fileOf pool12 2 #[] #[] 1537 4 #[] #[])
  fields := #[]
  methods := #[]
  instanceTypes := #[]
  staticTypes := #[]
  resolved := Array.replicate 8 none
  statics := none }

/-- the primitive byte -/
def k13 : Class := { plain "byte" none with kind := .primitive 'B', accessFlags := 0x411 }
/-- [B -/
def k14 : Class := { plain "[B" (some 0) with kind := .array 13 .byte, interfaces := #[12, 5], accessFlags := 1041 }

/-- the primitive int -/
def k15 : Class := { plain "int" none with kind := .primitive 'I', accessFlags := 0x411 }
/-- [I -/
def k16 : Class := { plain "[I" (some 0) with kind := .array 15 .int, interfaces := #[12, 5], accessFlags := 1041 }

def heap : Heap := #[]
def classes : Array Class := #[k0, k1, k2, k3, k4, k5, k6, k7, k8, k9, k10, k11, k12, k13, k14, k15, k16]
def interned : List (Array UInt16 × Addr) := []
def slotsUsed : Nat := 0
def theMethod : MethodId := ⟨1, 2⟩
def args0 : Array Value := #[.long 5, .long 7, .long 3, .int 4]
def aboutOver (below : List Frame) : State where
  vm := { classes := classes, interned := interned.toArray }
  heap := heap
  slotsUsed := slotsUsed
  threads := #[{ frames := .invoking theMethod args0 :: below }]
def below0 : List Frame := [.native { method := ⟨0, 0⟩, args := #[] }]
def about1 : State := aboutOver below0
def p0 : Program := .bare "" "" ""
def e0 : Env := launch0.env 0 0 0
theorem w_frames : about1.frames = Frame.invoking theMethod args0 :: below0 := rfl
set_option maxRecDepth 65536 in
theorem w_args : argsFit about1.vm theMethod args0 = true := by decide +kernel
set_option maxRecDepth 65536 in
theorem w_heap : heapFits about1 = true := by decide +kernel
set_option maxRecDepth 65536 in
theorem w_runnable : about1.curStatus? = some .runnable := by decide +kernel
set_option maxRecDepth 65536 in
theorem w_alone : about1.alone = true := by decide +kernel
set_option maxRecDepth 65536 in
theorem w_named : about1.methodNamed? x = some theMethod := by decide +kernel
set_option maxRecDepth 65536 in
theorem w_hears : about1.hears theMethod below0 = true := by decide +kernel
set_option maxRecDepth 65536 in
theorem w_ripe : about1.ripe theMethod args0 below0 = true := by decide +kernel
theorem w_running : about1.status = .running := rfl
set_option maxRecDepth 65536 in
theorem w_room : about1.hasRoom e0.platform room_1 = true :=
  launch0.hasRoom_least _ room_1 (by decide +kernel) (by decide +kernel) (by decide +kernel) (by decide +kernel) (by decide +kernel) (by decide +kernel)
theorem allAtoms_all (ts : List Jvm.Cond) (a : Array Jvm.Value) (st : Jvm.State) : (allAtoms ts).before a st = ts.all (fun c => c.before a st) := by
  induction ts with
  | nil => rfl
  | cons c t ih =>
    show (Jvm.Cond.and c (allAtoms t)).before a st = _
    rw [Jvm.Cond.before_and, ih, List.all_cons]
def words1 : List Jvm.Cond := Jvm.Cond.code x code maxLocals ret :: tables_1
/-- a 'code' word, met by the world's own term for the bytes: nothing is compared byte by byte -/
theorem code_word {y : MethodName} {bytes : ByteArray} {mx : Nat} {rt : Option FieldType} {a : Array Value} {s : State} {m : MethodId} {meth : Method} {c : Code} (h1 : s.methodNamed? y = some m) (h2 : s.vm.method? m = some meth) (h3 : meth.code = some c) (h4 : c.code = bytes)
    (h5 : (c.maxLocals == mx && c.exceptionTable.isEmpty && decide (c.maxStack ≤ mostOperands) && decide (meth.sig.returnType = rt) && !meth.locks && decide (parseMethodDescriptor y.desc = some meth.sig)) = true) : (Jvm.Cond.code y bytes mx rt).before a s = true := by
  simp only [Bool.and_eq_true, beq_iff_eq, Bool.not_eq_true', decide_eq_true_eq] at h5
  obtain ⟨⟨⟨⟨⟨g1, g2⟩, g3⟩, g4⟩, g5⟩, g6⟩ := h5
  simp [Cond.before, Cond.holds, Cond.value, h1, h2, h3, h4, g1, g2, g3, g4, g5, g6]
def isCode : Jvm.Cond → Bool
  | .code _ _ _ _ => true
  | _ => false
theorem all_split {L : List Jvm.Cond} {P : Jvm.Cond → Bool} (h1 : L.all (fun c => isCode c || P c) = true) (h2 : ∀ c ∈ L.filter isCode, P c = true) : L.all P = true := by
  refine List.all_eq_true.mpr fun c hc => ?_
  have h := List.all_eq_true.mp h1 c hc
  rcases Bool.eq_false_or_eq_true (isCode c) with hi | hi
  · exact h2 c (List.mem_filter.mpr ⟨hc, hi⟩)
  · simpa [hi] using h
set_option maxRecDepth 65536 in
theorem w_c0 : (Jvm.Cond.code x code maxLocals ret).before args0 about1 = true := code_word (m := ⟨1, 2⟩) (meth := k1m2) (c := k1c2) (by decide +kernel) rfl rfl rfl (by decide +kernel)
set_option maxRecDepth 65536 in
theorem w_c1 : (Jvm.Cond.code ({ cls := "com/example/poolwright/poolwright/PoolReportFitsPinLaw", name := "pickSize", desc := "(JJJI)J" } : Jvm.MethodName) method_2_code (12 : Nat) (Option.some Jvm.ClassFile.FieldType.long)).before args0 about1 = true := code_word (m := ⟨1, 1⟩) (meth := k1m1) (c := k1c1) (by decide +kernel) rfl rfl rfl (by decide +kernel)
set_option maxRecDepth 65536 in
theorem w_c2 : (Jvm.Cond.code ({ cls := "com/example/poolwright/poolwright/PoolReport$Space", name := "<init>", desc := "(JJJDDJ)V" } : Jvm.MethodName) prog_37_method_1_code (13 : Nat) (Option.none : Option Jvm.ClassFile.FieldType)).before args0 about1 = true := code_word (m := ⟨3, 0⟩) (meth := k3m0) (c := k3c0) (by decide +kernel) rfl rfl rfl (by decide +kernel)
set_option maxRecDepth 65536 in
theorem w_c3 : (Jvm.Cond.code ({ cls := "java/lang/Record", name := "<init>", desc := "()V" } : Jvm.MethodName) jdk_30_method_1_code (1 : Nat) (Option.none : Option Jvm.ClassFile.FieldType)).before args0 about1 = true := code_word (m := ⟨2, 0⟩) (meth := k2m0) (c := k2c0) (by decide +kernel) rfl rfl rfl (by decide +kernel)
set_option maxRecDepth 65536 in
theorem w_c4 : (Jvm.Cond.code ({ cls := "java/lang/Object", name := "<init>", desc := "()V" } : Jvm.MethodName) object_method_1_code (1 : Nat) (Option.none : Option Jvm.ClassFile.FieldType)).before args0 about1 = true := code_word (m := ⟨0, 0⟩) (meth := k0m0) (c := k0c0) (by decide +kernel) rfl rfl rfl (by decide +kernel)
set_option maxRecDepth 65536 in
theorem w_c5 : (Jvm.Cond.code ({ cls := "com/example/poolwright/poolwright/PoolReport", name := "<init>", desc := "(Ljava/lang/String;Ljava/lang/String;Ljava/util/Map;Lcom/example/poolwright/poolwright/PoolReport$Space;Ljava/util/Set;)V" } : Jvm.MethodName) prog_34_method_1_code (6 : Nat) (Option.none : Option Jvm.ClassFile.FieldType)).before args0 about1 = true := code_word (m := ⟨4, 0⟩) (meth := k4m0) (c := k4c0) (by decide +kernel) rfl rfl rfl (by decide +kernel)
set_option maxRecDepth 65536 in
theorem w_c6 : (Jvm.Cond.code ({ cls := "com/example/poolwright/poolwright/PoolReport", name := "fits", desc := "(J)Z" } : Jvm.MethodName) prog_34_method_8_code (3 : Nat) (Option.some Jvm.ClassFile.FieldType.boolean)).before args0 about1 = true := code_word (m := ⟨4, 1⟩) (meth := k4m1) (c := k4c1) (by decide +kernel) rfl rfl rfl (by decide +kernel)
set_option maxRecDepth 65536 in
theorem w_c7 : (Jvm.Cond.code ({ cls := "com/example/poolwright/poolwright/PoolReport$Space", name := "free", desc := "()J" } : Jvm.MethodName) prog_37_method_7_code (1 : Nat) (Option.some Jvm.ClassFile.FieldType.long)).before args0 about1 = true := code_word (m := ⟨3, 1⟩) (meth := k3m1) (c := k3c1) (by decide +kernel) rfl rfl rfl (by decide +kernel)
set_option maxRecDepth 65536 in
theorem w_c8 : (Jvm.Cond.code ({ cls := "com/example/poolwright/poolwright/PoolReport$Space", name := "removable", desc := "()J" } : Jvm.MethodName) prog_37_method_8_code (1 : Nat) (Option.some Jvm.ClassFile.FieldType.long)).before args0 about1 = true := code_word (m := ⟨3, 2⟩) (meth := k3m2) (c := k3c2) (by decide +kernel) rfl rfl rfl (by decide +kernel)
set_option maxRecDepth 65536 in
theorem w_c9 : (Jvm.Cond.code ({ cls := "java/lang/Math", name := "max", desc := "(JJ)J" } : Jvm.MethodName) jdk_29_method_66_code (4 : Nat) (Option.some Jvm.ClassFile.FieldType.long)).before args0 about1 = true := code_word (m := ⟨11, 1⟩) (meth := k11m1) (c := k11c1) (by decide +kernel) rfl rfl rfl (by decide +kernel)
def codes1 : List Jvm.Cond := [Jvm.Cond.code x code maxLocals ret, Jvm.Cond.code ({ cls := "com/example/poolwright/poolwright/PoolReportFitsPinLaw", name := "pickSize", desc := "(JJJI)J" } : Jvm.MethodName) method_2_code (12 : Nat) (Option.some Jvm.ClassFile.FieldType.long), Jvm.Cond.code ({ cls := "com/example/poolwright/poolwright/PoolReport$Space", name := "<init>", desc := "(JJJDDJ)V" } : Jvm.MethodName) prog_37_method_1_code (13 : Nat) (Option.none : Option Jvm.ClassFile.FieldType), Jvm.Cond.code ({ cls := "java/lang/Record", name := "<init>", desc := "()V" } : Jvm.MethodName) jdk_30_method_1_code (1 : Nat) (Option.none : Option Jvm.ClassFile.FieldType), Jvm.Cond.code ({ cls := "java/lang/Object", name := "<init>", desc := "()V" } : Jvm.MethodName) object_method_1_code (1 : Nat) (Option.none : Option Jvm.ClassFile.FieldType), Jvm.Cond.code ({ cls := "com/example/poolwright/poolwright/PoolReport", name := "<init>", desc := "(Ljava/lang/String;Ljava/lang/String;Ljava/util/Map;Lcom/example/poolwright/poolwright/PoolReport$Space;Ljava/util/Set;)V" } : Jvm.MethodName) prog_34_method_1_code (6 : Nat) (Option.none : Option Jvm.ClassFile.FieldType), Jvm.Cond.code ({ cls := "com/example/poolwright/poolwright/PoolReport", name := "fits", desc := "(J)Z" } : Jvm.MethodName) prog_34_method_8_code (3 : Nat) (Option.some Jvm.ClassFile.FieldType.boolean), Jvm.Cond.code ({ cls := "com/example/poolwright/poolwright/PoolReport$Space", name := "free", desc := "()J" } : Jvm.MethodName) prog_37_method_7_code (1 : Nat) (Option.some Jvm.ClassFile.FieldType.long), Jvm.Cond.code ({ cls := "com/example/poolwright/poolwright/PoolReport$Space", name := "removable", desc := "()J" } : Jvm.MethodName) prog_37_method_8_code (1 : Nat) (Option.some Jvm.ClassFile.FieldType.long), Jvm.Cond.code ({ cls := "java/lang/Math", name := "max", desc := "(JJ)J" } : Jvm.MethodName) jdk_29_method_66_code (4 : Nat) (Option.some Jvm.ClassFile.FieldType.long)]
set_option maxRecDepth 65536 in
theorem codes_eq : words1.filter isCode = codes1 := rfl
theorem w_codes : ∀ c ∈ words1.filter isCode, c.before args0 about1 = true := by
  rw [codes_eq]
  intro c hc
  simp only [codes1, List.mem_cons, List.not_mem_nil, or_false] at hc
  rcases hc with rfl | rfl | rfl | rfl | rfl | rfl | rfl | rfl | rfl | rfl
  · exact w_c0
  · exact w_c1
  · exact w_c2
  · exact w_c3
  · exact w_c4
  · exact w_c5
  · exact w_c6
  · exact w_c7
  · exact w_c8
  · exact w_c9
set_option maxRecDepth 65536 in
theorem w_t1 : (words1.take 24).all (fun c => isCode c || c.before args0 about1) = true := by decide +kernel
set_option maxRecDepth 65536 in
theorem w_t2 : ((words1.drop 24).take 24).all (fun c => isCode c || c.before args0 about1) = true := by decide +kernel
set_option maxRecDepth 65536 in
theorem w_t3 : (((words1.drop 24).drop 24).take 24).all (fun c => isCode c || c.before args0 about1) = true := by decide +kernel
set_option maxRecDepth 65536 in
theorem w_t4 : (((words1.drop 24).drop 24).drop 24).all (fun c => isCode c || c.before args0 about1) = true := by decide +kernel
theorem w_tables : (allAtoms (Jvm.Cond.code x code maxLocals ret :: tables_1)).before args0 about1 = true := by
  rw [allAtoms_all]
  show words1.all (fun c => c.before args0 about1) = true
  refine all_split ?_ w_codes
  rw [← List.take_append_drop 24 words1, List.all_append, w_t1, ← List.take_append_drop 24 (words1.drop 24), List.all_append, w_t2, ← List.take_append_drop 24 ((words1.drop 24).drop 24), List.all_append, w_t3, w_t4]
  rfl
set_option maxRecDepth 65536 in
theorem w_case : (Jvm.Cond.and given_1 narrow_1).before args0 about1 = true := by decide +kernel
theorem w_applies : (headSpec (Jvm.Cond.code x code maxLocals ret :: tables_1) room_1).applies x e0.platform about1 = true :=
  (Spec.applies_iff w_frames).mpr ⟨w_running, w_runnable, w_alone, w_named, w_hears, w_ripe, w_room, w_tables⟩
theorem atStart : AtStart classFile x code maxLocals ret World_1 tables_1 room_1 Calls_1 rest_1 Pre_1 launch0 p0 e0 about1 theMethod args0 below0 :=
  ⟨lists_1, trivial, launch0.admits_env _ _ _, launch0.least_env, fairChoices_fair.cas, fairChoices_fair.clock, w_frames, w_args, w_heap, w_applies, trivial, trivial, w_case⟩
end start1
theorem witness_1 : WitnessClaimed_1 := ⟨start1.p0, start1.e0, start1.about1, start1.theMethod, start1.args0, start1.below0, start1.atStart⟩
end Jvm.Pilot.@@N@@
