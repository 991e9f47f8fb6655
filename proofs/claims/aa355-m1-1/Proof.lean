import JvmDerived
import JvmDerived.Pilot.@@N@@Statement
import JvmDerived.Pilot.@@N@@Code
set_option linter.unusedVariables false
set_option linter.unusedSimpArgs false
namespace Jvm.RoadKit
open Sem ClassFile Op Lib Jvm.Stand Jvm.Free Jvm.LawKit
section New
variable {p : Program} {l : Launch} {e : Env} {R : Room} {s : State} {m : MethodId} {args : Array Value} {below : List Frame} {meth : Method} {c : Code} {T : State} {locs : List Loc} {cells slots : Nat}
theorem retI (X : Stand p l e R s m args below meth c T locs cells slots) (hx : p.tables.exec = Jvm.exec) {pc : Nat} {Ls : Array Slot} {z : Int32} {rest : List Value} (hret : meth.sig.returnType = some .int) (hd : decode c.code pc = .ok (.ireturn, 1)) {fs : List Frame}
    (hl : ∀ (f : JFrame) (acts : List Action), f.method = m → f.locked = none → f.entered = [] → (doReturn e (T.setTop f) acts (some (.int z))).1 = T.setFrames fs) : Steps p.tables e below (T.setTop (mkF m pc Ls (.int z :: rest))) (T.setFrames fs) := by
  have hm' : T.vm.method? m = some meth := X.method'
  have hn : narrow .int (.int z) = .int z := rfl
  show Steps p.tables e below (T.setTop { method := m, pc := pc, locals := Ls, stack := _ :: rest, locked := none }) _
  jvm_step X.here [X.here.top, hx, hd, hm', hret, hn]
  first | (intro acts; rw [hl _ acts rfl rfl rfl]) | rw [hl _ _ rfl rfl rfl]
  exact Steps.refl _
end New
end Jvm.RoadKit
namespace Jvm.Pilot.@@N@@
open Jvm Jvm.ClassFile Sem Op Lib Jvm.Free Jvm.Stand Jvm.LawKit Jvm.RoadKit Bundle Jvm.Pilot.@@N@@.Jvm.D
def own_min (x y : Int64) : Int64 := if (0 : Int32) < lcmpW x y then y else x
def own_sh (b : Int64) : Int64 := b - b / (4 : Int64)
def own_rz (B H : Int64) (h n : Int32) : Int32 := if (0 : Int32) < lcmpW (n.toInt64 - h.toInt64) (B - H) then 0 else 1
def own_hd (B H : Int64) (h n : Int32) : Int64 := if (0 : Int32) < lcmpW (n.toInt64 - h.toInt64) (B - H) then H else H + (n.toInt64 - h.toInt64)
def own_e (a b : Int64) : Int32 := if (0 : Int32) < lcmpW a b then (0 : Int32) else (1 : Int32)
def own_b (q : Int64) : Int64 := own_min (q &&& (2147483647 : Int64)) (2147483646 : Int64)
def own_x (x : Int32) : Int32 := x &&& (2147483647 : Int32)
def own_e1 (q : Int64) (x : Int32) : Int32 := own_e (own_x x).toInt64 (own_b q)
def own_h1 (q : Int64) (x : Int32) : Int64 := if own_e1 q x = (0 : Int32) then (0 : Int64) else (own_x x).toInt64
def own_h (q : Int64) (x z : Int32) : Int32 := ((z.toInt64 &&& (2147483647 : Int64)) - ((z.toInt64 &&& (2147483647 : Int64)) / (own_h1 q x + (1 : Int64))) * (own_h1 q x + (1 : Int64))).toInt32
def own_more (q : Int64) (x z y : Int32) : Int64 := (own_x y).toInt64 - (own_h q x z).toInt64
def own_e2 (q : Int64) (x z y : Int32) : Int32 := own_e (own_h1 q x + own_more q x z y) (own_b q)
def own_h2 (q : Int64) (x z y : Int32) : Int64 := if own_e2 q x z y = (0 : Int32) then own_h1 q x else own_h1 q x + own_more q x z y
def own_k (q : Int64) (x z y : Int32) : Int32 := (own_b q - own_h2 q x z y).toInt32
def own_d1 (q : Int64) (x : Int32) : Int64 := own_hd (own_b q) (0 : Int64) (0 : Int32) (own_x x)
def own_d2 (q : Int64) (x z y : Int32) : Int64 := own_hd (own_b q) (own_d1 q x) (own_h q x z) (own_x y)
def own_d3 (q : Int64) (x z y : Int32) : Int64 := own_hd (own_b q) (own_d2 q x z y) (0 : Int32) (own_k q x z y + (1 : Int32))
theorem own_e_1 {a b : Int64} (h : a.toInt ≤ b.toInt) : own_e a b = 1 := by
  rw [own_e, if_neg]; rw [lw_gt, Int64.lt_iff_toInt_lt]; omega
theorem own_e_0 {a b : Int64} (h : b.toInt < a.toInt) : own_e a b = 0 := by
  rw [own_e, if_pos]; rw [lw_gt, Int64.lt_iff_toInt_lt]; omega
theorem own_rz_1 {B H : Int64} {h n : Int32} (h0 : 0 ≤ H.toInt) (h1 : H.toInt ≤ B.toInt) (hB : B.toInt ≤ 2147483646) (hh : 0 ≤ h.toInt) (hn : 0 ≤ n.toInt) (hle : n.toInt - h.toInt ≤ B.toInt - H.toInt) : own_rz B H h n = 1 ∧ (own_hd B H h n).toInt = H.toInt + n.toInt - h.toInt := by
  have a1 := c_lsub n.toInt64 h.toInt64
  have a2 := rng64 (n.toInt64 - h.toInt64)
  have a3 := c_lsub B H
  have a4 := rng64 (B - H)
  have a5 := c_i2l n
  have a6 := c_i2l h
  have a7 := rng32 n
  have a8 := rng32 h
  have a9 := c_ladd H (n.toInt64 - h.toInt64)
  have a10 := rng64 (H + (n.toInt64 - h.toInt64))
  have hc : ¬ (0 : Int32) < lcmpW (n.toInt64 - h.toInt64) (B - H) := by
    rw [lw_gt, Int64.lt_iff_toInt_lt]; omega
  refine ⟨by rw [own_rz, if_neg hc], ?_⟩
  rw [own_hd, if_neg hc]
  omega
theorem own_rz_0 {B H : Int64} {h n : Int32} (h0 : 0 ≤ H.toInt) (h1 : H.toInt ≤ B.toInt) (hB : B.toInt ≤ 2147483646) (hh : 0 ≤ h.toInt) (hn : 0 ≤ n.toInt) (hle : ¬ n.toInt - h.toInt ≤ B.toInt - H.toInt) : own_rz B H h n = 0 ∧ own_hd B H h n = H := by
  have a1 := c_lsub n.toInt64 h.toInt64
  have a2 := rng64 (n.toInt64 - h.toInt64)
  have a3 := c_lsub B H
  have a4 := rng64 (B - H)
  have a5 := c_i2l n
  have a6 := c_i2l h
  have a7 := rng32 n
  have a8 := rng32 h
  have hc : (0 : Int32) < lcmpW (n.toInt64 - h.toInt64) (B - H) := by
    rw [lw_gt, Int64.lt_iff_toInt_lt]; omega
  exact ⟨by rw [own_rz, if_pos hc], by rw [own_hd, if_pos hc]⟩
theorem own_b_rng (q : Int64) : 0 ≤ (own_b q).toInt ∧ (own_b q).toInt ≤ 2147483646 := by
  have h := c_maskL q 2147483647 31 (by decide) (by decide)
  have e : ((2 ^ 31 : Nat) : Int) = 2147483648 := by decide
  rw [e] at h
  have e1 : (2147483646 : Int64).toInt = 2147483646 := by decide
  unfold own_b own_min
  by_cases hc : (0 : Int32) < lcmpW (q &&& (2147483647 : Int64)) (2147483646 : Int64)
  · rw [if_pos hc]; omega
  · rw [if_neg hc]; rw [lw_gt, Int64.lt_iff_toInt_lt] at hc; omega
theorem own_x_rng (x : Int32) : 0 ≤ (own_x x).toInt ∧ (own_x x).toInt ≤ 2147483647 := by
  have h := c_mask x 2147483647 31 (by decide) (by decide)
  have e : ((2 ^ 31 : Nat) : Int) = 2147483648 := by decide
  rw [e] at h
  unfold own_x
  omega
theorem own_1 (q : Int64) (x : Int32) : own_rz (own_b q) (0 : Int64) (0 : Int32) (own_x x) = own_e1 q x ∧ own_d1 q x = own_h1 q x ∧ 0 ≤ (own_h1 q x).toInt ∧ (own_h1 q x).toInt ≤ (own_b q).toInt := by
  have hb := own_b_rng q
  have hx := own_x_rng x
  have e0 : (0 : Int64).toInt = 0 := by decide
  have f0 : (0 : Int32).toInt = 0 := by decide
  have a5 := c_i2l (own_x x)
  unfold own_d1 own_h1 own_e1
  by_cases h : (own_x x).toInt ≤ (own_b q).toInt
  · have r := own_rz_1 (B := own_b q) (H := 0) (h := 0) (n := own_x x) (by omega) (by omega) (by omega) (by omega) (by omega) (by omega)
    rw [own_e_1 (by omega), if_neg (by decide)]
    refine ⟨r.1, Int64.toInt_inj.mp (by omega), by omega, by omega⟩
  · have r := own_rz_0 (B := own_b q) (H := 0) (h := 0) (n := own_x x) (by omega) (by omega) (by omega) (by omega) (by omega) (by omega)
    rw [own_e_0 (by omega), if_pos rfl]
    refine ⟨r.1, r.2, by omega, by omega⟩
theorem own_nz (q : Int64) (x : Int32) : own_h1 q x + (1 : Int64) ≠ 0 := by
  intro h
  have h1 := own_1 q x
  have hb := own_b_rng q
  have a := c_ladd (own_h1 q x) 1
  rw [h] at a
  have e0 : (0 : Int64).toInt = 0 := by decide
  have e1 : (1 : Int64).toInt = 1 := by decide
  omega
theorem own_h_rng (q : Int64) (x z : Int32) : 0 ≤ (own_h q x z).toInt ∧ (own_h q x z).toInt ≤ (own_h1 q x).toInt := by
  obtain ⟨-, -, h1, h2⟩ := own_1 q x
  have hb := own_b_rng q
  have hm := c_maskL z.toInt64 2147483647 31 (by decide) (by decide)
  have e : ((2 ^ 31 : Nat) : Int) = 2147483648 := by decide
  rw [e] at hm
  have e1 : (1 : Int64).toInt = 1 := by decide
  have a := c_ladd (own_h1 q x) 1
  have a' := rng64 (own_h1 q x + 1)
  have hd : (own_h1 q x + 1).toInt = (own_h1 q x).toInt + 1 := by omega
  unfold own_h
  generalize (z.toInt64 &&& (2147483647 : Int64)) = m at *
  generalize (own_h1 q x + (1 : Int64)) = d at *
  have hr := (c_lrem m d _ hd).1 (by omega)
  have h3 := Int.emod_nonneg m.toInt (b := (own_h1 q x).toInt + 1) (by omega)
  have h4 := Int.emod_lt_of_pos m.toInt (b := (own_h1 q x).toInt + 1) (by omega)
  rw [← hr] at h3 h4
  have h5 := c_l2i (m - m / d * d)
  have h6 := rng32 (m - m / d * d).toInt32
  omega
theorem own_2 (q : Int64) (x z y : Int32) : own_rz (own_b q) (own_d1 q x) (own_h q x z) (own_x y) = own_e2 q x z y ∧ own_d2 q x z y = own_h2 q x z y ∧ 0 ≤ (own_h2 q x z y).toInt ∧ (own_h2 q x z y).toInt ≤ (own_b q).toInt := by
  obtain ⟨-, hd, h1, h2⟩ := own_1 q x
  have hb := own_b_rng q
  have hy := own_x_rng y
  have hh := own_h_rng q x z
  unfold own_d2 own_h2 own_e2 own_more
  rw [hd]
  generalize own_h1 q x = H at *
  generalize own_h q x z = h at *
  generalize own_x y = n at *
  have a1 := c_lsub n.toInt64 h.toInt64
  have a2 := rng64 (n.toInt64 - h.toInt64)
  have a5 := c_i2l n
  have a6 := c_i2l h
  have a9 := c_ladd H (n.toInt64 - h.toInt64)
  have a10 := rng64 (H + (n.toInt64 - h.toInt64))
  by_cases hc : n.toInt - h.toInt ≤ (own_b q).toInt - H.toInt
  · have r := own_rz_1 (B := own_b q) (H := H) (h := h) (n := n) (by omega) (by omega) (by omega) (by omega) (by omega) hc
    rw [own_e_1 (by omega), if_neg (by decide)]
    refine ⟨r.1, Int64.toInt_inj.mp (by omega), by omega, by omega⟩
  · have r := own_rz_0 (B := own_b q) (H := H) (h := h) (n := n) (by omega) (by omega) (by omega) (by omega) (by omega) hc
    rw [own_e_0 (by omega), if_pos rfl]
    refine ⟨r.1, r.2, by omega, by omega⟩
theorem own_k_val (q : Int64) (x z y : Int32) : (own_k q x z y).toInt = (own_b q).toInt - (own_h2 q x z y).toInt ∧ (own_k q x z y + (1 : Int32)).toInt = (own_b q).toInt - (own_h2 q x z y).toInt + 1 := by
  obtain ⟨-, -, h1, h2⟩ := own_2 q x z y
  have hb := own_b_rng q
  have a1 := c_lsub (own_b q) (own_h2 q x z y)
  have a2 := rng64 (own_b q - own_h2 q x z y)
  have a3 := c_l2i (own_b q - own_h2 q x z y)
  have a4 := rng32 (own_b q - own_h2 q x z y).toInt32
  have e1 : (1 : Int32).toInt = 1 := by decide
  unfold own_k
  generalize (own_b q - own_h2 q x z y).toInt32 = kk at *
  have a5 := c_iadd kk 1
  have a6 := rng32 (kk + 1)
  omega
theorem own_3 (q : Int64) (x z y : Int32) : own_e (own_d2 q x z y) (own_sh (own_b q)) = own_e (own_h2 q x z y) (own_b q - own_b q / (4 : Int64)) := by
  rw [(own_2 q x z y).2.1]; rfl
theorem own_4 (q : Int64) (x z y : Int32) : own_rz (own_b q) (own_d2 q x z y) (0 : Int32) (own_k q x z y + (1 : Int32)) = 0 ∧ own_d3 q x z y = own_h2 q x z y := by
  obtain ⟨-, hd, h1, h2⟩ := own_2 q x z y
  have hk := own_k_val q x z y
  have hb := own_b_rng q
  have f0 : (0 : Int32).toInt = 0 := by decide
  unfold own_d3
  rw [hd]
  exact own_rz_0 (by omega) (by omega) (by omega) (by omega) (by omega) (by omega)
theorem own_5 (q : Int64) (x z y : Int32) : ¬ own_rz (own_b q) (own_d3 q x z y) (0 : Int32) (own_k q x z y) = 0 := by
  obtain ⟨-, hd, h1, h2⟩ := own_2 q x z y
  have hk := own_k_val q x z y
  have hb := own_b_rng q
  have f0 : (0 : Int32).toInt = 0 := by decide
  rw [(own_4 q x z y).2]
  rw [(own_rz_1 (B := own_b q) (H := own_h2 q x z y) (h := 0) (n := own_k q x z y) (by omega) (by omega) (by omega) (by omega) (by omega) (by omega)).1]
  decide
theorem ef_rm_min (m : MethodId) (x0 : Int64) (x1 : Int64) : entryFrame m #[(.long x0), (.long x1)] 4 = mkF m 0 #[.val (.long x0), .second, .val (.long x1), .second] [] := by first | (simp [entryFrame, mkF, argsToLocals, Value.category]; done) | rfl
def Q_rm_min (Z : State) (q1 : Int64) (q2 : Int64) (h0 : Heap) (n0 : Nat) (v : Option Value) (h : Heap) (L : List Loc) : Prop := v = some (.long (own_min q1 q2)) ∧ Fr n0 L ∧ h = h0
theorem d1_0 : decode jdk_29_method_70_code 0 = .ok (.lload_n 0, 1) := by decide +kernel
theorem d1_1 : decode jdk_29_method_70_code 1 = .ok (.lload_n 2, 1) := by decide +kernel
theorem d1_2 : decode jdk_29_method_70_code 2 = .ok (.lcmp, 1) := by decide +kernel
theorem d1_3 : decode jdk_29_method_70_code 3 = .ok (.ifCond .gt 7, 3) := by decide +kernel
theorem d1_10 : decode jdk_29_method_70_code 10 = .ok (.lload_n 2, 1) := by decide +kernel
theorem d1_11 : decode jdk_29_method_70_code 11 = .ok (.lreturn, 1) := by decide +kernel
theorem d1_6 : decode jdk_29_method_70_code 6 = .ok (.lload_n 0, 1) := by decide +kernel
theorem d1_7 : decode jdk_29_method_70_code 7 = .ok (.goto 4, 3) := by decide +kernel
set_option maxRecDepth 65536 in
set_option maxHeartbeats 40000000 in
theorem rm_min (l : Launch) (Z : State) (a0 : Array Value) (hw : ∀ d ∈ tables_1, d.before a0 Z = true) (ws : List Jvm.Cond) (q1 : Int64) (q2 : Int64) (h0 : Heap) (n0 : Nat) (Z0 : n0 ≤ h0.size)  :
    MetFree l (⟨"java/lang/Math", "min", "(JJ)J"⟩ : MethodName) (head1 (Jvm.Cond.code (⟨"java/lang/Math", "min", "(JJ)J"⟩ : MethodName) jdk_29_method_70_code 4 (some .long) :: ws) ({ frames := 0, cells := 0, slots := 0, locals := 0 } : Room)) (fun a U => a = #[(.long q1), (.long q2)] ∧ Z.Warmed39 U.vm ∧ U.heap = h0) (fun _ _ _ _ _ => True) (fun _ U o U' => ∃ v L, o = .returned v ∧ Q_rm_min Z q1 q2 h0 n0 v U'.heap L ∧ FrameEnd U o U' L ({ frames := 0, cells := 0, slots := 0, locals := 0 } : Room).cells ({ frames := 0, cells := 0, slots := 0, locals := 0 } : Room).slots) := by
  refine MetFree.of_bodySF (Jvm.Free.JP.mathPlain rfl (by decide +kernel)) hisR ?_
  intro p e s m args below meth c s₁ Bd hml0 hP hK
  obtain ⟨rfl, hZ, hh⟩ := hP
  have hx := Bd.exec
  have hby := Bd.bytes
  have hml : c.maxLocals = 4 := hml0
  have hown : s.vm.findClass "java/lang/Math" = some m.cls := findClass_of_methodNamed Bd.named
  have hnm := (name_of_methodNamed Bd.named Bd.method).1
  have X0 : Stand p l e ({ frames := 0, cells := 0, slots := 0, locals := 0 } : Room) s m #[(.long q1), (.long q2)] below meth c s₁ [] 0 0 := Stand.of_body Bd
  have e0 : s₁.heap = h0 := by rw [← hh, Bd.state]; rfl
  have N0 := Fr.nil n0
  have pre0 : ∀ t, Steps p.tables e below (s₁.setTop (mkF m 0 #[.val (.long q1), .second, .val (.long q2), .second] [])) t → Steps p.tables e below (s₁.setTop (entryFrame m #[(.long q1), (.long q2)] 4)) t := fun t k => castTop (ef_rm_min m q1 q2) k
  have pre_1 : ∀ t, Steps p.tables e below (s₁.setTop (mkF m 3 #[.val (.long q1), .second, .val (.long q2), .second] [(.int (lcmpW q1 q2))])) t → Steps p.tables e below (s₁.setTop (entryFrame m #[(.long q1), (.long q2)] 4)) t := by
    intro t k
    refine pre0 _ ?_
    show Steps p.tables e below (s₁.setTop (mkF m 0 #[.val (.long q1), .second, .val (.long q2), .second] [])) _
    refine XS.lloadN X0.here hx rfl (hb hby d1_0) rfl ?_
    show Steps p.tables e below (s₁.setTop (mkF m 1 #[.val (.long q1), .second, .val (.long q2), .second] [(.long q1)])) _
    refine XS.lloadN X0.here hx rfl (hb hby d1_1) rfl ?_
    show Steps p.tables e below (s₁.setTop (mkF m 2 #[.val (.long q1), .second, .val (.long q2), .second] [(.long q2), (.long q1)])) _
    refine XS.lcmp X0.here hx rfl (hb hby d1_2) rfl ?_
    exact k
  by_cases hc3 : (0 : Int32) < (lcmpW q1 q2)
  · obtain ⟨fs, hr, hrun, hended, hW, hsame⟩ := X0.leave (v := some (.long q2)) (fun h => by rw [Bd.returns] at h; cases h)
    refine ⟨_, _, pre_1 _ ?_, hrun, hended, _, _, rfl, ?_, ⟨_, rfl⟩, hW, hsame.mono (by decide) (by decide)⟩
    · show Steps p.tables e below (s₁.setTop (mkF m 3 #[.val (.long q1), .second, .val (.long q2), .second] [(.int (lcmpW q1 q2))])) _
      refine XS.ifYes X0.here hx rfl (pc0 := 3) (pc' := 10) rfl (hb hby d1_3) rfl ((if0 _ _).trans (tlt hc3).2.2.1) (by decide) (by decide) ?_
      show Steps p.tables e below (s₁.setTop (mkF m 10 #[.val (.long q1), .second, .val (.long q2), .second] [])) _
      refine XS.lloadN X0.here hx rfl (hb hby d1_10) rfl ?_
      show Steps p.tables e below (s₁.setTop (mkF m 11 #[.val (.long q1), .second, .val (.long q2), .second] [(.long q2)])) _
      jvm_step X0.here [X0.here.top, hx, (hb hby d1_11), X0.method', Bd.returns, narrow]
      first | (intro acts; rw [hr _ acts rfl rfl rfl]) | rw [hr _ _ rfl rfl rfl]
      exact Steps.refl _
    · show Q_rm_min Z q1 q2 h0 n0 _ s₁.heap _
      rw [e0]
      exact ⟨by rw [own_min, if_pos hc3], N0, rfl⟩
  · obtain ⟨fs, hr, hrun, hended, hW, hsame⟩ := X0.leave (v := some (.long q1)) (fun h => by rw [Bd.returns] at h; cases h)
    refine ⟨_, _, pre_1 _ ?_, hrun, hended, _, _, rfl, ?_, ⟨_, rfl⟩, hW, hsame.mono (by decide) (by decide)⟩
    · show Steps p.tables e below (s₁.setTop (mkF m 3 #[.val (.long q1), .second, .val (.long q2), .second] [(.int (lcmpW q1 q2))])) _
      refine XS.ifNo X0.here hx rfl (hb hby d1_3) rfl ((if0 _ _).trans (flt hc3).2.2.1) ?_
      show Steps p.tables e below (s₁.setTop (mkF m 6 #[.val (.long q1), .second, .val (.long q2), .second] [])) _
      refine XS.lloadN X0.here hx rfl (hb hby d1_6) rfl ?_
      show Steps p.tables e below (s₁.setTop (mkF m 7 #[.val (.long q1), .second, .val (.long q2), .second] [(.long q1)])) _
      refine XS.goto X0.here hx rfl (pc0 := 7) (pc' := 11) rfl (hb hby d1_7) (by decide) (by decide) ?_
      show Steps p.tables e below (s₁.setTop (mkF m 11 #[.val (.long q1), .second, .val (.long q2), .second] [(.long q1)])) _
      jvm_step X0.here [X0.here.top, hx, (hb hby d1_11), X0.method', Bd.returns, narrow]
      first | (intro acts; rw [hr _ acts rfl rfl rfl]) | rw [hr _ _ rfl rfl rfl]
      exact Steps.refl _
    · show Q_rm_min Z q1 q2 h0 n0 _ s₁.heap _
      rw [e0]
      exact ⟨by rw [own_min, if_neg hc3], N0, rfl⟩
theorem pn_4 : plainName "com/example/mountwright/mountwright/server/RequestBudget" = true := by first | (simp [plainName, overriddenIn]; done) | decide +kernel
theorem ef_rm_sh (m : MethodId) (x0 : Int64) : entryFrame m #[(.long x0)] 2 = mkF m 0 #[.val (.long x0), .second] [] := by first | (simp [entryFrame, mkF, argsToLocals, Value.category]; done) | rfl
def Q_rm_sh (Z : State) (q1 : Int64) (h0 : Heap) (n0 : Nat) (v : Option Value) (h : Heap) (L : List Loc) : Prop := v = some (.long (own_sh q1)) ∧ Fr n0 L ∧ h = h0
theorem d4_0 : decode prog_50_method_2_code 0 = .ok (.lload_n 0, 1) := by decide +kernel
theorem d4_1 : decode prog_50_method_2_code 1 = .ok (.lload_n 0, 1) := by decide +kernel
theorem d4_2 : decode prog_50_method_2_code 2 = .ok (.ldc2_w 19, 3) := by decide +kernel
theorem d4_5 : decode prog_50_method_2_code 5 = .ok (.ldiv, 1) := by decide +kernel
theorem d4_6 : decode prog_50_method_2_code 6 = .ok (.lsub, 1) := by decide +kernel
theorem d4_7 : decode prog_50_method_2_code 7 = .ok (.lreturn, 1) := by decide +kernel
set_option maxRecDepth 65536 in
set_option maxHeartbeats 40000000 in
theorem rm_sh (l : Launch) (Z : State) (a0 : Array Value) (hw : ∀ d ∈ tables_1, d.before a0 Z = true) (ws : List Jvm.Cond) (q1 : Int64) (h0 : Heap) (n0 : Nat) (Z0 : n0 ≤ h0.size)  :
    MetFree l (⟨"com/example/mountwright/mountwright/server/RequestBudget", "arrivingShare", "(J)J"⟩ : MethodName) (head1 (Jvm.Cond.code (⟨"com/example/mountwright/mountwright/server/RequestBudget", "arrivingShare", "(J)J"⟩ : MethodName) prog_50_method_2_code 2 (some .long) :: ws) ({ frames := 0, cells := 0, slots := 0, locals := 0 } : Room)) (fun a U => a = #[(.long q1)] ∧ Z.Warmed39 U.vm ∧ U.heap = h0) (fun _ _ _ _ _ => True) (fun _ U o U' => ∃ v L, o = .returned v ∧ Q_rm_sh Z q1 h0 n0 v U'.heap L ∧ FrameEnd U o U' L ({ frames := 0, cells := 0, slots := 0, locals := 0 } : Room).cells ({ frames := 0, cells := 0, slots := 0, locals := 0 } : Room).slots) := by
  refine MetFree.of_bodySF (plainFor_of_name pn_4) hisR ?_
  intro p e s m args below meth c s₁ Bd hml0 hP hK
  obtain ⟨rfl, hZ, hh⟩ := hP
  have hx := Bd.exec
  have hby := Bd.bytes
  have hml : c.maxLocals = 2 := hml0
  have hown : s.vm.findClass "com/example/mountwright/mountwright/server/RequestBudget" = some m.cls := findClass_of_methodNamed Bd.named
  have hnm := (name_of_methodNamed Bd.named Bd.method).1
  have X0 : Stand p l e ({ frames := 0, cells := 0, slots := 0, locals := 0 } : Room) s m #[(.long q1)] below meth c s₁ [] 0 0 := Stand.of_body Bd
  have e0 : s₁.heap = h0 := by rw [← hh, Bd.state]; rfl
  have N0 := Fr.nil n0
  have pre0 : ∀ t, Steps p.tables e below (s₁.setTop (mkF m 0 #[.val (.long q1), .second] [])) t → Steps p.tables e below (s₁.setTop (entryFrame m #[(.long q1)] 2)) t := fun t k => castTop (ef_rm_sh m q1) k
  obtain ⟨fs, hr, hrun, hended, hW, hsame⟩ := X0.leave (v := some (.long (q1 - (q1 / (4 : Int64))))) (fun h => by rw [Bd.returns] at h; cases h)
  refine ⟨_, _, pre0 _ ?_, hrun, hended, _, _, rfl, ?_, ⟨_, rfl⟩, hW, hsame.mono (by decide) (by decide)⟩
  · show Steps p.tables e below (s₁.setTop (mkF m 0 #[.val (.long q1), .second] [])) _
    refine XS.lloadN X0.here hx rfl (hb hby d4_0) rfl ?_
    show Steps p.tables e below (s₁.setTop (mkF m 1 #[.val (.long q1), .second] [(.long q1)])) _
    refine XS.lloadN X0.here hx rfl (hb hby d4_1) rfl ?_
    show Steps p.tables e below (s₁.setTop (mkF m 2 #[.val (.long q1), .second] [(.long q1), (.long q1)])) _
    refine X0.ldc2Long hx hown (mvT hZ (hw _ (List.mem_of_getElem? (i := 20) rfl))) (g := (mkF m 2 #[.val (.long q1), .second] [(.long q1), (.long q1)])) rfl (hb hby d4_2) _ ?_
    show Steps p.tables e below (s₁.setTop (mkF m 5 #[.val (.long q1), .second] [(.long (4 : Int64)), (.long q1), (.long q1)])) _
    refine XS.ldiv X0.here hx rfl (hb hby d4_5) rfl (by decide) ?_
    show Steps p.tables e below (s₁.setTop (mkF m 6 #[.val (.long q1), .second] [(.long (q1 / (4 : Int64))), (.long q1)])) _
    refine XS.lsub X0.here hx rfl (hb hby d4_6) rfl ?_
    show Steps p.tables e below (s₁.setTop (mkF m 7 #[.val (.long q1), .second] [(.long (q1 - (q1 / (4 : Int64))))])) _
    jvm_step X0.here [X0.here.top, hx, (hb hby d4_7), X0.method', Bd.returns, narrow]
    first | (intro acts; rw [hr _ acts rfl rfl rfl]) | rw [hr _ _ rfl rfl rfl]
    exact Steps.refl _
  · show Q_rm_sh Z q1 h0 n0 _ s₁.heap _
    rw [e0]
    exact ⟨rfl, N0, rfl⟩
theorem pn_2 : plainName "com/example/mountwright/mountwright/server/RequestBudget" = true := by first | (simp [plainName, overriddenIn]; done) | decide +kernel
theorem ef_rm_ini (m : MethodId) (x0 : Addr) (x1 : Int64) : entryFrame m #[(.ref x0), (.long x1)] 3 = mkF m 0 #[.val (.ref x0), .val (.long x1), .second] [] := by first | (simp [entryFrame, mkF, argsToLocals, Value.category]; done) | rfl
def Q_rm_ini (Z : State) (a1 : Addr) (q2 : Int64) (h0 : Heap) (n0 : Nat) (v : Option Value) (h : Heap) (L : List Loc) : Prop := v = none ∧ Fr n0 L ∧ Keep h0 h [a1] ∧ Exa Z h a1 "com/example/mountwright/mountwright/server/RequestBudget" ∧ Fld Z h a1 "com/example/mountwright/mountwright/server/RequestBudget" "bound" "J" (.long q2) ∧ Fld Z h a1 "com/example/mountwright/mountwright/server/RequestBudget" "held" "J" (.long (0 : Int64)) ∧ Fld Z h a1 "com/example/mountwright/mountwright/server/RequestBudget" "arrivingShare" "J" (.long (own_sh q2))
theorem d2_0 : decode prog_50_method_1_code 0 = .ok (.aload_n 0, 1) := by decide +kernel
theorem d2_1 : decode prog_50_method_1_code 1 = .ok (.invokespecial 1, 3) := by decide +kernel
theorem d2_4 : decode prog_50_method_1_code 4 = .ok (.aload_n 0, 1) := by decide +kernel
theorem d2_5 : decode prog_50_method_1_code 5 = .ok (.lload_n 1, 1) := by decide +kernel
theorem d2_6 : decode prog_50_method_1_code 6 = .ok (.putfield 7, 3) := by decide +kernel
theorem d2_9 : decode prog_50_method_1_code 9 = .ok (.aload_n 0, 1) := by decide +kernel
theorem d2_10 : decode prog_50_method_1_code 10 = .ok (.lload_n 1, 1) := by decide +kernel
theorem pd__J_J_229 : parseMethodDescriptor "(J)J" = some ⟨[.long], some .long⟩ := by decide +kernel
theorem d2_11 : decode prog_50_method_1_code 11 = .ok (.invokestatic 13, 3) := by decide +kernel
theorem d2_14 : decode prog_50_method_1_code 14 = .ok (.putfield 17, 3) := by decide +kernel
theorem d2_17 : decode prog_50_method_1_code 17 = .ok (.return_, 1) := by decide +kernel
set_option maxRecDepth 65536 in
set_option maxHeartbeats 40000000 in
theorem rm_ini (l : Launch) (Z : State) (a0 : Array Value) (hw : ∀ d ∈ tables_1, d.before a0 Z = true) (ws : List Jvm.Cond) (a1 : Addr) (q2 : Int64) (h0 : Heap) (n0 : Nat) (Z0 : n0 ≤ h0.size) (F_bound_a1 : Fld Z h0 a1 "com/example/mountwright/mountwright/server/RequestBudget" "bound" "J" (.long (0 : Int64))) (F_held_a1 : Fld Z h0 a1 "com/example/mountwright/mountwright/server/RequestBudget" "held" "J" (.long (0 : Int64))) (F_arrivingShare_a1 : Fld Z h0 a1 "com/example/mountwright/mountwright/server/RequestBudget" "arrivingShare" "J" (.long (0 : Int64))) (E_a1 : Exa Z h0 a1 "com/example/mountwright/mountwright/server/RequestBudget") (g_a1 : n0 ≤ a1) :
    MetFree l (⟨"com/example/mountwright/mountwright/server/RequestBudget", "<init>", "(J)V"⟩ : MethodName) (head1 (Jvm.Cond.code (⟨"com/example/mountwright/mountwright/server/RequestBudget", "<init>", "(J)V"⟩ : MethodName) prog_50_method_1_code 3 none :: ws) ({ frames := 1, cells := 0, slots := 0, locals := 14 } : Room)) (fun a U => a = #[(.ref a1), (.long q2)] ∧ Z.Warmed39 U.vm ∧ U.heap = h0) (fun _ _ _ _ _ => True) (fun _ U o U' => ∃ v L, o = .returned v ∧ Q_rm_ini Z a1 q2 h0 n0 v U'.heap L ∧ FrameEnd U o U' L ({ frames := 1, cells := 0, slots := 0, locals := 14 } : Room).cells ({ frames := 1, cells := 0, slots := 0, locals := 14 } : Room).slots) := by
  refine MetFree.of_bodySF (plainFor_of_name pn_2) hisR ?_
  intro p e s m args below meth c s₁ Bd hml0 hP hK
  obtain ⟨rfl, hZ, hh⟩ := hP
  have hx := Bd.exec
  have hby := Bd.bytes
  have hml : c.maxLocals = 3 := hml0
  have hown : s.vm.findClass "com/example/mountwright/mountwright/server/RequestBudget" = some m.cls := findClass_of_methodNamed Bd.named
  have hnm := (name_of_methodNamed Bd.named Bd.method).1
  have X0 : Stand p l e ({ frames := 1, cells := 0, slots := 0, locals := 14 } : Room) s m #[(.ref a1), (.long q2)] below meth c s₁ [] 0 0 := Stand.of_body Bd
  have e0 : s₁.heap = h0 := by rw [← hh, Bd.state]; rfl
  have N0 := Fr.nil n0
  have pre0 : ∀ t, Steps p.tables e below (s₁.setTop (mkF m 0 #[.val (.ref a1), .val (.long q2), .second] [])) t → Steps p.tables e below (s₁.setTop (entryFrame m #[(.ref a1), (.long q2)] 3)) t := fun t k => castTop (ef_rm_ini m a1 q2) k
  obtain ⟨T1, X1, e1, st1⟩ := initO X0 hx hZ hown (hw _ (List.mem_of_getElem? (i := 12) rfl)) (hw _ (List.mem_of_getElem? (i := 13) rfl)) (hw _ (List.mem_of_getElem? (i := 14) rfl)) e0 (g := (mkF m 1 #[.val (.ref a1), .val (.long q2), .second] [(.ref a1)])) rfl (by rw [hml]; rfl) rfl (hb hby d2_1) (by decide) (W := 0) (by show 2 * 0 + _ ≤ _; exact Nat.le_of_eq rfl) (by decide)
  obtain ⟨T2, h2, X2, e2, W2, st2⟩ := putF X1 hx hZ hown (host := "") (Or.inl (hw _ (List.mem_of_getElem? (i := 15) rfl))) Via.refl e1 F_bound_a1 E_a1 (Or.inr ⟨(hw _ (List.mem_of_getElem? (i := 16) rfl)), rfl, hnm⟩) (hw _ (List.mem_of_getElem? (i := 7) rfl)) (ty := .long) (by decide) rfl rfl (g := (mkF m 6 #[.val (.ref a1), .val (.long q2), .second] [(.long q2), (.ref a1)])) rfl rfl (hb hby d2_6)
  have f1 : Exa Z h2 a1 "com/example/mountwright/mountwright/server/RequestBudget" := E_a1.wr W2
  have f2 : Fld Z h2 a1 "com/example/mountwright/mountwright/server/RequestBudget" "bound" "J" (.long q2) := F_bound_a1.same W2
  have f3 : Fld Z h2 a1 "com/example/mountwright/mountwright/server/RequestBudget" "held" "J" (.long (0 : Int64)) := F_held_a1.other W2 (Or.inr (slot_ne (Or.inl (hw _ (List.mem_of_getElem? (i := 30) rfl))) (Or.inr (hw _ (List.mem_of_getElem? (i := 16) rfl))) (by decide) (t := .long) (t' := .long) (by decide) (by decide)))
  have f4 : Fld Z h2 a1 "com/example/mountwright/mountwright/server/RequestBudget" "arrivingShare" "J" (.long (0 : Int64)) := F_arrivingShare_a1.other W2 (Or.inr (slot_ne (Or.inr (hw _ (List.mem_of_getElem? (i := 22) rfl))) (Or.inr (hw _ (List.mem_of_getElem? (i := 16) rfl))) (by decide) (t := .long) (t' := .long) (by decide) (by decide)))
  have f5 : n0 ≤ a1 := g_a1
  have f6 : Keep h0 h2 [a1] := (Keep.refl h0 [a1]).wr W2 (Or.inl (by simp))
  have N2 := Fr.snoc X2 N0 f5
  have Z2 : n0 ≤ h2.size := by rw [W2.size]; exact Z0
  obtain ⟨_, _, ⟨T3, L3, k3, n3⟩, -, X3, ⟨Lc3, hQ3, l3, y3, z3⟩, st3⟩ := Jvm.LawKit.callS X2 hx (y := (⟨"com/example/mountwright/mountwright/server/RequestBudget", "arrivingShare", "(J)J"⟩ : MethodName)) hown (mvT hZ (hw _ (List.mem_of_getElem? (i := 17) rfl))) (mvT hZ (hw _ (List.mem_of_getElem? (i := 18) rfl))) (mvT hZ (hw _ (List.mem_of_getElem? (i := 8) rfl))) (mvT hZ (hw _ (List.mem_of_getElem? (i := 19) rfl))) (by decide) (backOf (W := 1) (rm_sh l Z a0 hw [] q2 h2 n0 Z2 ) hZ (hw _ (List.mem_of_getElem? (i := 19) rfl)) (hw _ (List.mem_of_getElem? (i := 8) rfl)) (by decide) (by decide)) (g := (mkF m 11 #[.val (.ref a1), .val (.long q2), .second] [(.long q2), (.ref a1)])) rfl (by rw [hml]; rfl) (argsL := [(.long q2)]) (rest := [(.ref a1)]) (lenOf pd__J_J_229 rfl) rfl (by show 2 * 0 + _ ≤ _; exact Nat.le_of_eq rfl) (hb hby d2_11) (fun _ _ => ⟨rfl, e2, (by decide : 0 + 0 ≤ _), (by decide : 0 + 0 ≤ _)⟩)
  dsimp only [Pt.U, Pt.locs, Pt.cells, Pt.slots] at X3 l3 y3 z3 st3 hQ3
  subst l3 y3 z3
  obtain ⟨rfl, N3q, e3⟩ := hQ3
  have N3 := Fr.app N2 N3q
  obtain ⟨T4, h4, X4, e4, W4, st4⟩ := putF X3 hx hZ hown (host := "") (Or.inl (hw _ (List.mem_of_getElem? (i := 21) rfl))) Via.refl e3 f4 f1 (Or.inr ⟨(hw _ (List.mem_of_getElem? (i := 22) rfl)), rfl, hnm⟩) (hw _ (List.mem_of_getElem? (i := 7) rfl)) (ty := .long) (by decide) rfl rfl (g := (mkF m 14 #[.val (.ref a1), .val (.long q2), .second] [(.long (own_sh q2)), (.ref a1)])) rfl rfl (hb hby d2_14)
  have f7 : Exa Z h4 a1 "com/example/mountwright/mountwright/server/RequestBudget" := f1.wr W4
  have f8 : Fld Z h4 a1 "com/example/mountwright/mountwright/server/RequestBudget" "bound" "J" (.long q2) := f2.other W4 (Or.inr (slot_ne (Or.inr (hw _ (List.mem_of_getElem? (i := 16) rfl))) (Or.inr (hw _ (List.mem_of_getElem? (i := 22) rfl))) (by decide) (t := .long) (t' := .long) (by decide) (by decide)))
  have f9 : Fld Z h4 a1 "com/example/mountwright/mountwright/server/RequestBudget" "held" "J" (.long (0 : Int64)) := f3.other W4 (Or.inr (slot_ne (Or.inl (hw _ (List.mem_of_getElem? (i := 30) rfl))) (Or.inr (hw _ (List.mem_of_getElem? (i := 22) rfl))) (by decide) (t := .long) (t' := .long) (by decide) (by decide)))
  have f10 : Fld Z h4 a1 "com/example/mountwright/mountwright/server/RequestBudget" "arrivingShare" "J" (.long (own_sh q2)) := f4.same W4
  have f11 : n0 ≤ a1 := f5
  have f12 : Keep h0 h4 [a1] := f6.wr W4 (Or.inl (by simp))
  have N4 := Fr.snoc X4 N3 f11
  have Z4 : n0 ≤ h4.size := by rw [W4.size]; exact Z2
  obtain ⟨fs, hr, hrun, hended, hW, hsame⟩ := X4.leave (v := none) (fun _ => rfl)
  refine ⟨_, _, pre0 _ ?_, hrun, hended, _, _, rfl, ?_, ⟨_, rfl⟩, hW, hsame.mono (by decide) (by decide)⟩
  · show Steps p.tables e below (s₁.setTop (mkF m 0 #[.val (.ref a1), .val (.long q2), .second] [])) _
    refine XS.aloadN X0.here hx rfl (hb hby d2_0) rfl rfl ?_
    show Steps p.tables e below (s₁.setTop (mkF m 1 #[.val (.ref a1), .val (.long q2), .second] [(.ref a1)])) _
    refine st1 _ ?_
    show Steps p.tables e below (T1.setTop (mkF m 4 #[.val (.ref a1), .val (.long q2), .second] [])) _
    refine XS.aloadN X1.here hx rfl (hb hby d2_4) rfl rfl ?_
    show Steps p.tables e below (T1.setTop (mkF m 5 #[.val (.ref a1), .val (.long q2), .second] [(.ref a1)])) _
    refine XS.lloadN X1.here hx rfl (hb hby d2_5) rfl ?_
    show Steps p.tables e below (T1.setTop (mkF m 6 #[.val (.ref a1), .val (.long q2), .second] [(.long q2), (.ref a1)])) _
    refine st2 _ ?_
    show Steps p.tables e below (T2.setTop (mkF m 9 #[.val (.ref a1), .val (.long q2), .second] [])) _
    refine XS.aloadN X2.here hx rfl (hb hby d2_9) rfl rfl ?_
    show Steps p.tables e below (T2.setTop (mkF m 10 #[.val (.ref a1), .val (.long q2), .second] [(.ref a1)])) _
    refine XS.lloadN X2.here hx rfl (hb hby d2_10) rfl ?_
    show Steps p.tables e below (T2.setTop (mkF m 11 #[.val (.ref a1), .val (.long q2), .second] [(.long q2), (.ref a1)])) _
    refine st3 _ ?_
    show Steps p.tables e below (T3.setTop (mkF m 14 #[.val (.ref a1), .val (.long q2), .second] [(.long (own_sh q2)), (.ref a1)])) _
    refine st4 _ ?_
    show Steps p.tables e below (T4.setTop (mkF m 17 #[.val (.ref a1), .val (.long q2), .second] [])) _
    exact X4.returnOut hx Bd.returns (hb hby d2_17) hr
  · show Q_rm_ini Z a1 q2 h0 n0 _ T4.heap _
    rw [e4]
    exact ⟨rfl, N4, f12, f7, f8, f9, f10⟩
theorem pn_5 : plainName "com/example/mountwright/mountwright/server/RequestBudget" = true := by first | (simp [plainName, overriddenIn]; done) | decide +kernel
theorem ef_rm_rz (m : MethodId) (x0 : Addr) (x1 : Int32) (x2 : Int32) : entryFrame m #[(.ref x0), (.int x1), (.int x2)] 5 = mkF m 0 #[.val (.ref x0), .val (.int x1), .val (.int x2), .unset, .unset] [] := by first | (simp [entryFrame, mkF, argsToLocals, Value.category]; done) | rfl
def Q_rm_rz (Z : State) (a1 : Addr) (p2 : Int32) (p3 : Int32) (B H S : Int64) (h0 : Heap) (n0 : Nat) (v : Option Value) (h : Heap) (L : List Loc) : Prop := v = some (.int (own_rz B H p2 p3)) ∧ Fr n0 L ∧ Keep h0 h [a1] ∧ Exa Z h a1 "com/example/mountwright/mountwright/server/RequestBudget" ∧ Fld Z h a1 "com/example/mountwright/mountwright/server/RequestBudget" "bound" "J" (.long B) ∧ Fld Z h a1 "com/example/mountwright/mountwright/server/RequestBudget" "held" "J" (.long (own_hd B H p2 p3)) ∧ Fld Z h a1 "com/example/mountwright/mountwright/server/RequestBudget" "arrivingShare" "J" (.long S)
theorem d5_0 : decode prog_50_method_3_code 0 = .ok (.iload_n 2, 1) := by decide +kernel
theorem d5_1 : decode prog_50_method_3_code 1 = .ok (.i2l, 1) := by decide +kernel
theorem d5_2 : decode prog_50_method_3_code 2 = .ok (.iload_n 1, 1) := by decide +kernel
theorem d5_3 : decode prog_50_method_3_code 3 = .ok (.i2l, 1) := by decide +kernel
theorem d5_4 : decode prog_50_method_3_code 4 = .ok (.lsub, 1) := by decide +kernel
theorem d5_5 : decode prog_50_method_3_code 5 = .ok (.lstore_n 3, 1) := by decide +kernel
theorem d5_6 : decode prog_50_method_3_code 6 = .ok (.lload_n 3, 1) := by decide +kernel
theorem d5_7 : decode prog_50_method_3_code 7 = .ok (.aload_n 0, 1) := by decide +kernel
theorem d5_8 : decode prog_50_method_3_code 8 = .ok (.getfield 7, 3) := by decide +kernel
theorem d5_11 : decode prog_50_method_3_code 11 = .ok (.aload_n 0, 1) := by decide +kernel
theorem d5_12 : decode prog_50_method_3_code 12 = .ok (.getfield 21, 3) := by decide +kernel
theorem d5_15 : decode prog_50_method_3_code 15 = .ok (.lsub, 1) := by decide +kernel
theorem d5_16 : decode prog_50_method_3_code 16 = .ok (.lcmp, 1) := by decide +kernel
theorem d5_17 : decode prog_50_method_3_code 17 = .ok (.ifCond .le 5, 3) := by decide +kernel
theorem d5_20 : decode prog_50_method_3_code 20 = .ok (.iconst 0, 1) := by decide +kernel
theorem d5_21 : decode prog_50_method_3_code 21 = .ok (.ireturn, 1) := by decide +kernel
theorem d5_22 : decode prog_50_method_3_code 22 = .ok (.aload_n 0, 1) := by decide +kernel
theorem d5_23 : decode prog_50_method_3_code 23 = .ok (.dup, 1) := by decide +kernel
theorem d5_24 : decode prog_50_method_3_code 24 = .ok (.getfield 21, 3) := by decide +kernel
theorem d5_27 : decode prog_50_method_3_code 27 = .ok (.lload_n 3, 1) := by decide +kernel
theorem d5_28 : decode prog_50_method_3_code 28 = .ok (.ladd, 1) := by decide +kernel
theorem d5_29 : decode prog_50_method_3_code 29 = .ok (.putfield 21, 3) := by decide +kernel
theorem d5_32 : decode prog_50_method_3_code 32 = .ok (.iconst 1, 1) := by decide +kernel
theorem d5_33 : decode prog_50_method_3_code 33 = .ok (.ireturn, 1) := by decide +kernel
set_option maxRecDepth 65536 in
set_option maxHeartbeats 40000000 in
theorem rm_rz (l : Launch) (Z : State) (a0 : Array Value) (hw : ∀ d ∈ tables_1, d.before a0 Z = true) (ws : List Jvm.Cond) (a1 : Addr) (p2 : Int32) (p3 : Int32) (B H S : Int64) (h0 : Heap) (n0 : Nat) (Z0 : n0 ≤ h0.size) (F_bound_a1 : Fld Z h0 a1 "com/example/mountwright/mountwright/server/RequestBudget" "bound" "J" (.long B)) (F_held_a1 : Fld Z h0 a1 "com/example/mountwright/mountwright/server/RequestBudget" "held" "J" (.long H)) (F_arrivingShare_a1 : Fld Z h0 a1 "com/example/mountwright/mountwright/server/RequestBudget" "arrivingShare" "J" (.long S)) (E_a1 : Exa Z h0 a1 "com/example/mountwright/mountwright/server/RequestBudget") (g_a1 : n0 ≤ a1) :
    MetFree l (⟨"com/example/mountwright/mountwright/server/RequestBudget", "resize", "(II)Z"⟩ : MethodName) (head1 (Jvm.Cond.code (⟨"com/example/mountwright/mountwright/server/RequestBudget", "resize", "(II)Z"⟩ : MethodName) prog_50_method_3_code 5 (some .boolean) :: ws) ({ frames := 0, cells := 0, slots := 0, locals := 0 } : Room)) (fun a U => a = #[(.ref a1), (.int p2), (.int p3)] ∧ Z.Warmed39 U.vm ∧ U.heap = h0) (fun _ _ _ _ _ => True) (fun _ U o U' => ∃ v L, o = .returned v ∧ Q_rm_rz Z a1 p2 p3 B H S h0 n0 v U'.heap L ∧ FrameEnd U o U' L ({ frames := 0, cells := 0, slots := 0, locals := 0 } : Room).cells ({ frames := 0, cells := 0, slots := 0, locals := 0 } : Room).slots) := by
  refine MetFree.of_bodySF (plainFor_of_name pn_5) hisR ?_
  intro p e s m args below meth c s₁ Bd hml0 hP hK
  obtain ⟨rfl, hZ, hh⟩ := hP
  have hx := Bd.exec
  have hby := Bd.bytes
  have hml : c.maxLocals = 5 := hml0
  have hown : s.vm.findClass "com/example/mountwright/mountwright/server/RequestBudget" = some m.cls := findClass_of_methodNamed Bd.named
  have hnm := (name_of_methodNamed Bd.named Bd.method).1
  have X0 : Stand p l e ({ frames := 0, cells := 0, slots := 0, locals := 0 } : Room) s m #[(.ref a1), (.int p2), (.int p3)] below meth c s₁ [] 0 0 := Stand.of_body Bd
  have e0 : s₁.heap = h0 := by rw [← hh, Bd.state]; rfl
  have N0 := Fr.nil n0
  have pre0 : ∀ t, Steps p.tables e below (s₁.setTop (mkF m 0 #[.val (.ref a1), .val (.int p2), .val (.int p3), .unset, .unset] [])) t → Steps p.tables e below (s₁.setTop (entryFrame m #[(.ref a1), (.int p2), (.int p3)] 5)) t := fun t k => castTop (ef_rm_rz m a1 p2 p3) k
  obtain ⟨T1, X1, e1, st1⟩ := getF X0 hx hZ hown (host := "") (Or.inl (hw _ (List.mem_of_getElem? (i := 15) rfl))) Via.refl e0 F_bound_a1 (g := (mkF m 8 #[.val (.ref a1), .val (.int p2), .val (.int p3), .val (.long ((p3.toInt64) - (p2.toInt64))), .second] [(.ref a1), (.long ((p3.toInt64) - (p2.toInt64)))])) rfl rfl (hb hby d5_8)
  obtain ⟨T2, X2, e2, st2⟩ := getF X1 hx hZ hown (host := "") (Or.inl (hw _ (List.mem_of_getElem? (i := 29) rfl))) Via.refl e1 F_held_a1 (g := (mkF m 12 #[.val (.ref a1), .val (.int p2), .val (.int p3), .val (.long ((p3.toInt64) - (p2.toInt64))), .second] [(.ref a1), (.long B), (.long ((p3.toInt64) - (p2.toInt64)))])) rfl rfl (hb hby d5_12)
  have pre_3 : ∀ t, Steps p.tables e below (T2.setTop (mkF m 17 #[.val (.ref a1), .val (.int p2), .val (.int p3), .val (.long ((p3.toInt64) - (p2.toInt64))), .second] [(.int (lcmpW ((p3.toInt64) - (p2.toInt64)) (B - H)))])) t → Steps p.tables e below (s₁.setTop (entryFrame m #[(.ref a1), (.int p2), (.int p3)] 5)) t := by
    intro t k
    refine pre0 _ ?_
    show Steps p.tables e below (s₁.setTop (mkF m 0 #[.val (.ref a1), .val (.int p2), .val (.int p3), .unset, .unset] [])) _
    refine XS.iloadN X0.here hx rfl (hb hby d5_0) rfl ?_
    show Steps p.tables e below (s₁.setTop (mkF m 1 #[.val (.ref a1), .val (.int p2), .val (.int p3), .unset, .unset] [(.int p3)])) _
    refine XS.i2l X0.here hx rfl (hb hby d5_1) rfl ?_
    show Steps p.tables e below (s₁.setTop (mkF m 2 #[.val (.ref a1), .val (.int p2), .val (.int p3), .unset, .unset] [(.long (p3.toInt64))])) _
    refine XS.iloadN X0.here hx rfl (hb hby d5_2) rfl ?_
    show Steps p.tables e below (s₁.setTop (mkF m 3 #[.val (.ref a1), .val (.int p2), .val (.int p3), .unset, .unset] [(.int p2), (.long (p3.toInt64))])) _
    refine XS.i2l X0.here hx rfl (hb hby d5_3) rfl ?_
    show Steps p.tables e below (s₁.setTop (mkF m 4 #[.val (.ref a1), .val (.int p2), .val (.int p3), .unset, .unset] [(.long (p2.toInt64)), (.long (p3.toInt64))])) _
    refine XS.lsub X0.here hx rfl (hb hby d5_4) rfl ?_
    show Steps p.tables e below (s₁.setTop (mkF m 5 #[.val (.ref a1), .val (.int p2), .val (.int p3), .unset, .unset] [(.long ((p3.toInt64) - (p2.toInt64)))])) _
    refine XS.lstoreN X0.here hx rfl (hb hby d5_5) rfl (l' := #[.val (.ref a1), .val (.int p2), .val (.int p3), .val (.long ((p3.toInt64) - (p2.toInt64))), .second]) rfl ?_
    show Steps p.tables e below (s₁.setTop (mkF m 6 #[.val (.ref a1), .val (.int p2), .val (.int p3), .val (.long ((p3.toInt64) - (p2.toInt64))), .second] [])) _
    refine XS.lloadN X0.here hx rfl (hb hby d5_6) rfl ?_
    show Steps p.tables e below (s₁.setTop (mkF m 7 #[.val (.ref a1), .val (.int p2), .val (.int p3), .val (.long ((p3.toInt64) - (p2.toInt64))), .second] [(.long ((p3.toInt64) - (p2.toInt64)))])) _
    refine XS.aloadN X0.here hx rfl (hb hby d5_7) rfl rfl ?_
    show Steps p.tables e below (s₁.setTop (mkF m 8 #[.val (.ref a1), .val (.int p2), .val (.int p3), .val (.long ((p3.toInt64) - (p2.toInt64))), .second] [(.ref a1), (.long ((p3.toInt64) - (p2.toInt64)))])) _
    refine st1 _ ?_
    show Steps p.tables e below (T1.setTop (mkF m 11 #[.val (.ref a1), .val (.int p2), .val (.int p3), .val (.long ((p3.toInt64) - (p2.toInt64))), .second] [(.long B), (.long ((p3.toInt64) - (p2.toInt64)))])) _
    refine XS.aloadN X1.here hx rfl (hb hby d5_11) rfl rfl ?_
    show Steps p.tables e below (T1.setTop (mkF m 12 #[.val (.ref a1), .val (.int p2), .val (.int p3), .val (.long ((p3.toInt64) - (p2.toInt64))), .second] [(.ref a1), (.long B), (.long ((p3.toInt64) - (p2.toInt64)))])) _
    refine st2 _ ?_
    show Steps p.tables e below (T2.setTop (mkF m 15 #[.val (.ref a1), .val (.int p2), .val (.int p3), .val (.long ((p3.toInt64) - (p2.toInt64))), .second] [(.long H), (.long B), (.long ((p3.toInt64) - (p2.toInt64)))])) _
    refine XS.lsub X2.here hx rfl (hb hby d5_15) rfl ?_
    show Steps p.tables e below (T2.setTop (mkF m 16 #[.val (.ref a1), .val (.int p2), .val (.int p3), .val (.long ((p3.toInt64) - (p2.toInt64))), .second] [(.long (B - H)), (.long ((p3.toInt64) - (p2.toInt64)))])) _
    refine XS.lcmp X2.here hx rfl (hb hby d5_16) rfl ?_
    exact k
  by_cases hc17 : (0 : Int32) < (lcmpW ((p3.toInt64) - (p2.toInt64)) (B - H))
  · obtain ⟨fs, hr, hrun, hended, hW, hsame⟩ := X2.leave (v := some (.int (0 : Int32))) (fun h => by rw [Bd.returns] at h; cases h)
    refine ⟨_, _, pre_3 _ ?_, hrun, hended, _, _, rfl, ?_, ⟨_, rfl⟩, hW, hsame.mono (by decide) (by decide)⟩
    · show Steps p.tables e below (T2.setTop (mkF m 17 #[.val (.ref a1), .val (.int p2), .val (.int p3), .val (.long ((p3.toInt64) - (p2.toInt64))), .second] [(.int (lcmpW ((p3.toInt64) - (p2.toInt64)) (B - H)))])) _
      refine XS.ifNo X2.here hx rfl (hb hby d5_17) rfl ((if0 _ _).trans (tlt hc17).2.2.2) ?_
      show Steps p.tables e below (T2.setTop (mkF m 20 #[.val (.ref a1), .val (.int p2), .val (.int p3), .val (.long ((p3.toInt64) - (p2.toInt64))), .second] [])) _
      refine XS.iconst X2.here hx rfl (hb hby d5_20) ?_
      show Steps p.tables e below (T2.setTop (mkF m 21 #[.val (.ref a1), .val (.int p2), .val (.int p3), .val (.long ((p3.toInt64) - (p2.toInt64))), .second] [(.int (0 : Int32))])) _
      exact retN X2 hx (t := .boolean) Bd.returns (by simp) (hb hby d5_21) hr
    · show Q_rm_rz Z a1 p2 p3 B H S h0 n0 _ T2.heap _
      rw [e2]
      refine ⟨by rw [own_rz, if_pos hc17], N0, (Keep.refl h0 [a1]), E_a1, F_bound_a1, ?_, F_arrivingShare_a1⟩
      rw [own_hd, if_pos hc17]
      exact F_held_a1
  · obtain ⟨T4, X4, e4, st4⟩ := getF X2 hx hZ hown (host := "") (Or.inl (hw _ (List.mem_of_getElem? (i := 29) rfl))) Via.refl e2 F_held_a1 (g := (mkF m 24 #[.val (.ref a1), .val (.int p2), .val (.int p3), .val (.long ((p3.toInt64) - (p2.toInt64))), .second] [(.ref a1), (.ref a1)])) rfl rfl (hb hby d5_24)
    obtain ⟨T5, h5, X5, e5, W5, st5⟩ := putF X4 hx hZ hown (host := "") (Or.inl (hw _ (List.mem_of_getElem? (i := 29) rfl))) Via.refl e4 F_held_a1 E_a1 (Or.inl (hw _ (List.mem_of_getElem? (i := 30) rfl))) (hw _ (List.mem_of_getElem? (i := 7) rfl)) (ty := .long) (by decide) rfl rfl (g := (mkF m 29 #[.val (.ref a1), .val (.int p2), .val (.int p3), .val (.long ((p3.toInt64) - (p2.toInt64))), .second] [(.long (H + ((p3.toInt64) - (p2.toInt64)))), (.ref a1)])) rfl rfl (hb hby d5_29)
    have f1 : Exa Z h5 a1 "com/example/mountwright/mountwright/server/RequestBudget" := E_a1.wr W5
    have f2 : Fld Z h5 a1 "com/example/mountwright/mountwright/server/RequestBudget" "bound" "J" (.long B) := F_bound_a1.other W5 (Or.inr (slot_ne (Or.inr (hw _ (List.mem_of_getElem? (i := 16) rfl))) (Or.inl (hw _ (List.mem_of_getElem? (i := 30) rfl))) (by decide) (t := .long) (t' := .long) (by decide) (by decide)))
    have f3 : Fld Z h5 a1 "com/example/mountwright/mountwright/server/RequestBudget" "held" "J" (.long (H + ((p3.toInt64) - (p2.toInt64)))) := F_held_a1.same W5
    have f4 : Fld Z h5 a1 "com/example/mountwright/mountwright/server/RequestBudget" "arrivingShare" "J" (.long S) := F_arrivingShare_a1.other W5 (Or.inr (slot_ne (Or.inr (hw _ (List.mem_of_getElem? (i := 22) rfl))) (Or.inl (hw _ (List.mem_of_getElem? (i := 30) rfl))) (by decide) (t := .long) (t' := .long) (by decide) (by decide)))
    have f5 : n0 ≤ a1 := g_a1
    have f6 : Keep h0 h5 [a1] := (Keep.refl h0 [a1]).wr W5 (Or.inl (by simp))
    have N5 := Fr.snoc X5 N0 f5
    have Z5 : n0 ≤ h5.size := by rw [W5.size]; exact Z0
    obtain ⟨fs, hr, hrun, hended, hW, hsame⟩ := X5.leave (v := some (.int (1 : Int32))) (fun h => by rw [Bd.returns] at h; cases h)
    refine ⟨_, _, pre_3 _ ?_, hrun, hended, _, _, rfl, ?_, ⟨_, rfl⟩, hW, hsame.mono (by decide) (by decide)⟩
    · show Steps p.tables e below (T2.setTop (mkF m 17 #[.val (.ref a1), .val (.int p2), .val (.int p3), .val (.long ((p3.toInt64) - (p2.toInt64))), .second] [(.int (lcmpW ((p3.toInt64) - (p2.toInt64)) (B - H)))])) _
      refine XS.ifYes X2.here hx rfl (pc0 := 17) (pc' := 22) rfl (hb hby d5_17) rfl ((if0 _ _).trans (flt hc17).2.2.2) (by decide) (by decide) ?_
      show Steps p.tables e below (T2.setTop (mkF m 22 #[.val (.ref a1), .val (.int p2), .val (.int p3), .val (.long ((p3.toInt64) - (p2.toInt64))), .second] [])) _
      refine XS.aloadN X2.here hx rfl (hb hby d5_22) rfl rfl ?_
      show Steps p.tables e below (T2.setTop (mkF m 23 #[.val (.ref a1), .val (.int p2), .val (.int p3), .val (.long ((p3.toInt64) - (p2.toInt64))), .second] [(.ref a1)])) _
      refine XS.dup X2.here hx rfl (hb hby d5_23) rfl rfl ?_
      show Steps p.tables e below (T2.setTop (mkF m 24 #[.val (.ref a1), .val (.int p2), .val (.int p3), .val (.long ((p3.toInt64) - (p2.toInt64))), .second] [(.ref a1), (.ref a1)])) _
      refine st4 _ ?_
      show Steps p.tables e below (T4.setTop (mkF m 27 #[.val (.ref a1), .val (.int p2), .val (.int p3), .val (.long ((p3.toInt64) - (p2.toInt64))), .second] [(.long H), (.ref a1)])) _
      refine XS.lloadN X4.here hx rfl (hb hby d5_27) rfl ?_
      show Steps p.tables e below (T4.setTop (mkF m 28 #[.val (.ref a1), .val (.int p2), .val (.int p3), .val (.long ((p3.toInt64) - (p2.toInt64))), .second] [(.long ((p3.toInt64) - (p2.toInt64))), (.long H), (.ref a1)])) _
      refine XS.ladd X4.here hx rfl (hb hby d5_28) rfl ?_
      show Steps p.tables e below (T4.setTop (mkF m 29 #[.val (.ref a1), .val (.int p2), .val (.int p3), .val (.long ((p3.toInt64) - (p2.toInt64))), .second] [(.long (H + ((p3.toInt64) - (p2.toInt64)))), (.ref a1)])) _
      refine st5 _ ?_
      show Steps p.tables e below (T5.setTop (mkF m 32 #[.val (.ref a1), .val (.int p2), .val (.int p3), .val (.long ((p3.toInt64) - (p2.toInt64))), .second] [])) _
      refine XS.iconst X5.here hx rfl (hb hby d5_32) ?_
      show Steps p.tables e below (T5.setTop (mkF m 33 #[.val (.ref a1), .val (.int p2), .val (.int p3), .val (.long ((p3.toInt64) - (p2.toInt64))), .second] [(.int (1 : Int32))])) _
      exact retN X5 hx (t := .boolean) Bd.returns (by simp) (hb hby d5_33) hr
    · show Q_rm_rz Z a1 p2 p3 B H S h0 n0 _ T5.heap _
      rw [e5]
      refine ⟨by rw [own_rz, if_neg hc17], N5, f6, f1, f2, ?_, f4⟩
      rw [own_hd, if_neg hc17]
      exact f3
theorem pn_6 : plainName "com/example/mountwright/mountwright/server/RequestBudget" = true := by first | (simp [plainName, overriddenIn]; done) | decide +kernel
theorem ef_rm_ad (m : MethodId) (x0 : Addr) : entryFrame m #[(.ref x0)] 1 = mkF m 0 #[.val (.ref x0)] [] := by first | (simp [entryFrame, mkF, argsToLocals, Value.category]; done) | rfl
def Q_rm_ad (Z : State) (a1 : Addr) (B H S : Int64) (h0 : Heap) (n0 : Nat) (v : Option Value) (h : Heap) (L : List Loc) : Prop := v = some (.int (own_e H S)) ∧ Fr n0 L ∧ h = h0
theorem d6_0 : decode prog_50_method_5_code 0 = .ok (.aload_n 0, 1) := by decide +kernel
theorem d6_1 : decode prog_50_method_5_code 1 = .ok (.getfield 21, 3) := by decide +kernel
theorem d6_4 : decode prog_50_method_5_code 4 = .ok (.aload_n 0, 1) := by decide +kernel
theorem d6_5 : decode prog_50_method_5_code 5 = .ok (.getfield 17, 3) := by decide +kernel
theorem d6_8 : decode prog_50_method_5_code 8 = .ok (.lcmp, 1) := by decide +kernel
theorem d6_9 : decode prog_50_method_5_code 9 = .ok (.ifCond .gt 7, 3) := by decide +kernel
theorem d6_16 : decode prog_50_method_5_code 16 = .ok (.iconst 0, 1) := by decide +kernel
theorem d6_17 : decode prog_50_method_5_code 17 = .ok (.ireturn, 1) := by decide +kernel
theorem d6_12 : decode prog_50_method_5_code 12 = .ok (.iconst 1, 1) := by decide +kernel
theorem d6_13 : decode prog_50_method_5_code 13 = .ok (.goto 4, 3) := by decide +kernel
set_option maxRecDepth 65536 in
set_option maxHeartbeats 40000000 in
theorem rm_ad (l : Launch) (Z : State) (a0 : Array Value) (hw : ∀ d ∈ tables_1, d.before a0 Z = true) (ws : List Jvm.Cond) (a1 : Addr) (B H S : Int64) (h0 : Heap) (n0 : Nat) (Z0 : n0 ≤ h0.size) (F_bound_a1 : Fld Z h0 a1 "com/example/mountwright/mountwright/server/RequestBudget" "bound" "J" (.long B)) (F_held_a1 : Fld Z h0 a1 "com/example/mountwright/mountwright/server/RequestBudget" "held" "J" (.long H)) (F_arrivingShare_a1 : Fld Z h0 a1 "com/example/mountwright/mountwright/server/RequestBudget" "arrivingShare" "J" (.long S)) (E_a1 : Exa Z h0 a1 "com/example/mountwright/mountwright/server/RequestBudget") (g_a1 : n0 ≤ a1) :
    MetFree l (⟨"com/example/mountwright/mountwright/server/RequestBudget", "admitsArriving", "()Z"⟩ : MethodName) (head1 (Jvm.Cond.code (⟨"com/example/mountwright/mountwright/server/RequestBudget", "admitsArriving", "()Z"⟩ : MethodName) prog_50_method_5_code 1 (some .boolean) :: ws) ({ frames := 0, cells := 0, slots := 0, locals := 0 } : Room)) (fun a U => a = #[(.ref a1)] ∧ Z.Warmed39 U.vm ∧ U.heap = h0) (fun _ _ _ _ _ => True) (fun _ U o U' => ∃ v L, o = .returned v ∧ Q_rm_ad Z a1 B H S h0 n0 v U'.heap L ∧ FrameEnd U o U' L ({ frames := 0, cells := 0, slots := 0, locals := 0 } : Room).cells ({ frames := 0, cells := 0, slots := 0, locals := 0 } : Room).slots) := by
  refine MetFree.of_bodySF (plainFor_of_name pn_6) hisR ?_
  intro p e s m args below meth c s₁ Bd hml0 hP hK
  obtain ⟨rfl, hZ, hh⟩ := hP
  have hx := Bd.exec
  have hby := Bd.bytes
  have hml : c.maxLocals = 1 := hml0
  have hown : s.vm.findClass "com/example/mountwright/mountwright/server/RequestBudget" = some m.cls := findClass_of_methodNamed Bd.named
  have hnm := (name_of_methodNamed Bd.named Bd.method).1
  have X0 : Stand p l e ({ frames := 0, cells := 0, slots := 0, locals := 0 } : Room) s m #[(.ref a1)] below meth c s₁ [] 0 0 := Stand.of_body Bd
  have e0 : s₁.heap = h0 := by rw [← hh, Bd.state]; rfl
  have N0 := Fr.nil n0
  have pre0 : ∀ t, Steps p.tables e below (s₁.setTop (mkF m 0 #[.val (.ref a1)] [])) t → Steps p.tables e below (s₁.setTop (entryFrame m #[(.ref a1)] 1)) t := fun t k => castTop (ef_rm_ad m a1) k
  obtain ⟨T1, X1, e1, st1⟩ := getF X0 hx hZ hown (host := "") (Or.inl (hw _ (List.mem_of_getElem? (i := 29) rfl))) Via.refl e0 F_held_a1 (g := (mkF m 1 #[.val (.ref a1)] [(.ref a1)])) rfl rfl (hb hby d6_1)
  obtain ⟨T2, X2, e2, st2⟩ := getF X1 hx hZ hown (host := "") (Or.inl (hw _ (List.mem_of_getElem? (i := 21) rfl))) Via.refl e1 F_arrivingShare_a1 (g := (mkF m 5 #[.val (.ref a1)] [(.ref a1), (.long H)])) rfl rfl (hb hby d6_5)
  have pre_3 : ∀ t, Steps p.tables e below (T2.setTop (mkF m 9 #[.val (.ref a1)] [(.int (lcmpW H S))])) t → Steps p.tables e below (s₁.setTop (entryFrame m #[(.ref a1)] 1)) t := by
    intro t k
    refine pre0 _ ?_
    show Steps p.tables e below (s₁.setTop (mkF m 0 #[.val (.ref a1)] [])) _
    refine XS.aloadN X0.here hx rfl (hb hby d6_0) rfl rfl ?_
    show Steps p.tables e below (s₁.setTop (mkF m 1 #[.val (.ref a1)] [(.ref a1)])) _
    refine st1 _ ?_
    show Steps p.tables e below (T1.setTop (mkF m 4 #[.val (.ref a1)] [(.long H)])) _
    refine XS.aloadN X1.here hx rfl (hb hby d6_4) rfl rfl ?_
    show Steps p.tables e below (T1.setTop (mkF m 5 #[.val (.ref a1)] [(.ref a1), (.long H)])) _
    refine st2 _ ?_
    show Steps p.tables e below (T2.setTop (mkF m 8 #[.val (.ref a1)] [(.long S), (.long H)])) _
    refine XS.lcmp X2.here hx rfl (hb hby d6_8) rfl ?_
    exact k
  by_cases hc9 : (0 : Int32) < (lcmpW H S)
  · obtain ⟨fs, hr, hrun, hended, hW, hsame⟩ := X2.leave (v := some (.int (0 : Int32))) (fun h => by rw [Bd.returns] at h; cases h)
    refine ⟨_, _, pre_3 _ ?_, hrun, hended, _, _, rfl, ?_, ⟨_, rfl⟩, hW, hsame.mono (by decide) (by decide)⟩
    · show Steps p.tables e below (T2.setTop (mkF m 9 #[.val (.ref a1)] [(.int (lcmpW H S))])) _
      refine XS.ifYes X2.here hx rfl (pc0 := 9) (pc' := 16) rfl (hb hby d6_9) rfl ((if0 _ _).trans (tlt hc9).2.2.1) (by decide) (by decide) ?_
      show Steps p.tables e below (T2.setTop (mkF m 16 #[.val (.ref a1)] [])) _
      refine XS.iconst X2.here hx rfl (hb hby d6_16) ?_
      show Steps p.tables e below (T2.setTop (mkF m 17 #[.val (.ref a1)] [(.int (0 : Int32))])) _
      exact retN X2 hx (t := .boolean) Bd.returns (by simp) (hb hby d6_17) hr
    · show Q_rm_ad Z a1 B H S h0 n0 _ T2.heap _
      rw [e2]
      exact ⟨by rw [own_e, if_pos hc9], N0, rfl⟩
  · obtain ⟨fs, hr, hrun, hended, hW, hsame⟩ := X2.leave (v := some (.int (1 : Int32))) (fun h => by rw [Bd.returns] at h; cases h)
    refine ⟨_, _, pre_3 _ ?_, hrun, hended, _, _, rfl, ?_, ⟨_, rfl⟩, hW, hsame.mono (by decide) (by decide)⟩
    · show Steps p.tables e below (T2.setTop (mkF m 9 #[.val (.ref a1)] [(.int (lcmpW H S))])) _
      refine XS.ifNo X2.here hx rfl (hb hby d6_9) rfl ((if0 _ _).trans (flt hc9).2.2.1) ?_
      show Steps p.tables e below (T2.setTop (mkF m 12 #[.val (.ref a1)] [])) _
      refine XS.iconst X2.here hx rfl (hb hby d6_12) ?_
      show Steps p.tables e below (T2.setTop (mkF m 13 #[.val (.ref a1)] [(.int (1 : Int32))])) _
      refine XS.goto X2.here hx rfl (pc0 := 13) (pc' := 17) rfl (hb hby d6_13) (by decide) (by decide) ?_
      show Steps p.tables e below (T2.setTop (mkF m 17 #[.val (.ref a1)] [(.int (1 : Int32))])) _
      exact retN X2 hx (t := .boolean) Bd.returns (by simp) (hb hby d6_17) hr
    · show Q_rm_ad Z a1 B H S h0 n0 _ T2.heap _
      rw [e2]
      exact ⟨by rw [own_e, if_neg hc9], N0, rfl⟩
theorem pn_0 : plainName "com/example/mountwright/mountwright/server/RequestBudgetResizePinLaw" = true := by first | (simp [plainName, overriddenIn]; done) | decide +kernel
theorem ef_rm0 (m : MethodId) (x0 : Int64) (x1 : Int32) (x2 : Int32) (x3 : Int32) : entryFrame m #[(.long x0), (.int x1), (.int x2), (.int x3)] maxLocals = mkF m 0 #[.val (.long x0), .second, .val (.int x1), .val (.int x2), .val (.int x3), .unset, .unset, .unset, .unset, .unset, .unset, .unset, .unset, .unset, .unset, .unset, .unset, .unset, .unset, .unset, .unset, .unset, .unset, .unset, .unset, .unset] [] := by first | (simp [entryFrame, mkF, argsToLocals, Value.category, maxLocals]; done) | rfl
def Q_rm0 (Z : State) (q1 : Int64) (p2 : Int32) (p3 : Int32) (p4 : Int32) (h0 : Heap) (n0 : Nat) (v : Option Value) (h : Heap) (L : List Loc) : Prop := v = some (.int 1) ∧ Fr n0 L
theorem pd__JJ_J_303 : parseMethodDescriptor "(JJ)J" = some ⟨[.long, .long], some .long⟩ := by decide +kernel
theorem pd__J_V_241 : parseMethodDescriptor "(J)V" = some ⟨[.long], none⟩ := by decide +kernel
theorem pd__II_Z_317 : parseMethodDescriptor "(II)Z" = some ⟨[.int, .int], some .boolean⟩ := by decide +kernel
theorem pd___Z_171 : parseMethodDescriptor "()Z" = some ⟨[], some .boolean⟩ := by decide +kernel
set_option maxRecDepth 65536 in
set_option maxHeartbeats 40000000 in
theorem rm0 (l : Launch) (Z : State) (a0 : Array Value) (hw : ∀ d ∈ tables_1, d.before a0 Z = true) (ws : List Jvm.Cond) (q1 : Int64) (p2 : Int32) (p3 : Int32) (p4 : Int32) (h0 : Heap) (n0 : Nat) (Z0 : n0 ≤ h0.size)  :
    MetFree l x (head1 (Jvm.Cond.code x code maxLocals ret :: ws) room_1) (fun a U => a = #[(.long q1), (.int p2), (.int p3), (.int p4)] ∧ Z.Warmed39 U.vm ∧ U.heap = h0) (fun _ _ _ _ _ => True) (fun _ U o U' => ∃ v L, o = .returned v ∧ Q_rm0 Z q1 p2 p3 p4 h0 n0 v U'.heap L ∧ FrameEnd U o U' L room_1.cells room_1.slots) := by
  refine MetFree.of_bodySF (plainFor_of_name pn_0) hisR ?_
  intro p e s m args below meth c s₁ Bd hml0 hP hK
  obtain ⟨rfl, hZ, hh⟩ := hP
  have hx := Bd.exec
  have hby := Bd.bytes
  have hml : c.maxLocals = 26 := hml0
  have hown : s.vm.findClass "com/example/mountwright/mountwright/server/RequestBudgetResizePinLaw" = some m.cls := findClass_of_methodNamed Bd.named
  have hnm := (name_of_methodNamed Bd.named Bd.method).1
  have X0 : Stand p l e room_1 s m #[(.long q1), (.int p2), (.int p3), (.int p4)] below meth c s₁ [] 0 0 := Stand.of_body Bd
  have e0 : s₁.heap = h0 := by rw [← hh, Bd.state]; rfl
  have N0 := Fr.nil n0
  have pre0 : ∀ t, Steps p.tables e below (s₁.setTop (mkF m 0 #[.val (.long q1), .second, .val (.int p2), .val (.int p3), .val (.int p4), .unset, .unset, .unset, .unset, .unset, .unset, .unset, .unset, .unset, .unset, .unset, .unset, .unset, .unset, .unset, .unset, .unset, .unset, .unset, .unset, .unset] [])) t → Steps p.tables e below (s₁.setTop (entryFrame m #[(.long q1), (.int p2), (.int p3), (.int p4)] maxLocals)) t := fun t k => castTop (ef_rm0 m q1 p2 p3 p4) k
  obtain ⟨_, _, ⟨T1, L1, k1, n1⟩, -, X1, ⟨Lc1, hQ1, l1, y1, z1⟩, st1⟩ := Jvm.LawKit.callS X0 hx (y := (⟨"java/lang/Math", "min", "(JJ)J"⟩ : MethodName)) hown (mvT hZ (hw _ (List.mem_of_getElem? (i := 2) rfl))) (mvT hZ (hw _ (List.mem_of_getElem? (i := 3) rfl))) (mvT hZ (hw _ (List.mem_of_getElem? (i := 4) rfl))) (mvT hZ (hw _ (List.mem_of_getElem? (i := 5) rfl))) (by decide) (backOf (W := 0) (rm_min l Z a0 hw [] (q1 &&& (2147483647 : Int64)) (2147483646 : Int64) h0 n0 Z0 ) hZ (hw _ (List.mem_of_getElem? (i := 5) rfl)) (hw _ (List.mem_of_getElem? (i := 4) rfl)) (by decide) (by decide)) (g := (mkF m 8 #[.val (.long q1), .second, .val (.int p2), .val (.int p3), .val (.int p4), .unset, .unset, .unset, .unset, .unset, .unset, .unset, .unset, .unset, .unset, .unset, .unset, .unset, .unset, .unset, .unset, .unset, .unset, .unset, .unset, .unset] [(.long (2147483646 : Int64)), (.long (q1 &&& (2147483647 : Int64)))])) rfl (by rw [hml]; rfl) (argsL := [(.long (q1 &&& (2147483647 : Int64))), (.long (2147483646 : Int64))]) (rest := []) (lenOf pd__JJ_J_303 rfl) rfl (by show 2 * 0 + _ ≤ _; exact Nat.le_of_eq rfl) (hb hby at_8) (fun _ _ => ⟨rfl, e0, (by decide : 0 + 0 ≤ _), (by decide : 0 + 0 ≤ _)⟩)
  dsimp only [Pt.U, Pt.locs, Pt.cells, Pt.slots] at X1 l1 y1 z1 st1 hQ1
  subst l1 y1 z1
  obtain ⟨rfl, N1q, e1⟩ := hQ1
  have N1 := Fr.app N0 N1q
  obtain ⟨T2, h2, X2, e2, E2, A2, D2, -, st2⟩ := newO X1 hx hZ hown (hw _ (List.mem_of_getElem? (i := 6) rfl)) (hw _ (List.mem_of_getElem? (i := 7) rfl)) (hw _ (List.mem_of_getElem? (i := 8) rfl)) e1 (g := (mkF m 13 #[.val (.long q1), .second, .val (.int p2), .val (.int p3), .val (.int p4), .val (.long (own_b q1)), .second, .unset, .unset, .unset, .unset, .unset, .unset, .unset, .unset, .unset, .unset, .unset, .unset, .unset, .unset, .unset, .unset, .unset, .unset, .unset] [])) rfl (hb hby at_13) (by decide) (by decide)
  obtain ⟨b2, g2⟩ : ∃ z, z = h0.size := ⟨_, rfl⟩
  rw [← g2] at A2 D2 st2
  have g_b2 : n0 ≤ b2 := Nat.le_trans Z0 (Nat.le_of_eq g2.symm)
  have Z2 : n0 ≤ h2.size := Nat.le_trans Z0 E2.1
  have F_bound_b2 : Fld Z h2 b2 "com/example/mountwright/mountwright/server/RequestBudget" "bound" "J" (.long (0 : Int64)) := D2 (Or.inr (hw _ (List.mem_of_getElem? (i := 16) rfl))) (ty := .long) (by decide)
  have F_arrivingShare_b2 : Fld Z h2 b2 "com/example/mountwright/mountwright/server/RequestBudget" "arrivingShare" "J" (.long (0 : Int64)) := D2 (Or.inr (hw _ (List.mem_of_getElem? (i := 22) rfl))) (ty := .long) (by decide)
  have F_held_b2 : Fld Z h2 b2 "com/example/mountwright/mountwright/server/RequestBudget" "held" "J" (.long (0 : Int64)) := D2 (Or.inl (hw _ (List.mem_of_getElem? (i := 30) rfl))) (ty := .long) (by decide)
  obtain ⟨_, _, ⟨T3, L3, k3, n3⟩, -, X3, ⟨Lc3, hQ3, l3, y3, z3⟩, st3⟩ := X2.specialBack hx (y := (⟨"com/example/mountwright/mountwright/server/RequestBudget", "<init>", "(J)V"⟩ : MethodName)) rfl hown (mvT hZ (hw _ (List.mem_of_getElem? (i := 9) rfl))) (mvT hZ (hw _ (List.mem_of_getElem? (i := 10) rfl))) (mvT hZ (hw _ (List.mem_of_getElem? (i := 11) rfl))) (by decide) (backOf (W := 1) (rm_ini l Z a0 hw [] b2 (own_b q1) h2 n0 Z2 F_bound_b2 F_held_b2 F_arrivingShare_b2 A2 g_b2) hZ (hw _ (List.mem_of_getElem? (i := 11) rfl)) (hw _ (List.mem_of_getElem? (i := 8) rfl)) (by decide) (by decide)) (g := (mkF m 19 #[.val (.long q1), .second, .val (.int p2), .val (.int p3), .val (.int p4), .val (.long (own_b q1)), .second, .unset, .unset, .unset, .unset, .unset, .unset, .unset, .unset, .unset, .unset, .unset, .unset, .unset, .unset, .unset, .unset, .unset, .unset, .unset] [(.long (own_b q1)), (.ref b2), (.ref b2)])) rfl (by rw [hml]; rfl) (Steps.refl _) (a := b2) (argsL := [(.long (own_b q1))]) (rest := [(.ref b2)]) (lenOf pd__J_V_241 rfl) rfl (by show 2 * 0 + _ ≤ _; exact Nat.le_of_eq rfl) (hb hby at_19) (fun _ _ => ⟨rfl, e2, (by decide : 1 + 0 ≤ _), (by decide : 3 + 0 ≤ _)⟩)
  dsimp only [Pt.U, Pt.locs, Pt.cells, Pt.slots] at X3 l3 y3 z3 st3 hQ3
  subst l3 y3 z3
  obtain ⟨rfl, N3q, K3, fk3_0, fk3_1, fk3_2, fk3_3⟩ := hQ3
  have f1 : n0 ≤ b2 := g_b2
  have Z3 : n0 ≤ T3.heap.size := Nat.le_trans Z2 K3.1
  have N3 := Fr.app N1 N3q
  obtain ⟨cq4, kq4, q4a, q4b, q4c⟩ := isOf hZ rfl fk3_0
  obtain ⟨_, _, ⟨T4, L4, k4, n4⟩, -, X4, ⟨Lc4, hQ4, l4, y4, z4⟩, st4⟩ := X3.virtualBack hx (y := (⟨"com/example/mountwright/mountwright/server/RequestBudget", "resize", "(II)Z"⟩ : MethodName)) (z := (⟨"com/example/mountwright/mountwright/server/RequestBudget", "resize", "(II)Z"⟩ : MethodName)) hown (mvT hZ (hw _ (List.mem_of_getElem? (i := 24) rfl))) (mvT hZ (hw _ (List.mem_of_getElem? (i := 25) rfl))) (notFace_of_selects (args := #[]) (mvT hZ (hw _ (List.mem_of_getElem? (i := 27) rfl)))) (mvT hZ (hw _ (List.mem_of_getElem? (i := 27) rfl))) (mvT hZ (hw _ (List.mem_of_getElem? (i := 26) rfl))) (by decide) (backOf (W := 0) (rm_rz l Z a0 hw [] b2 (0 : Int32) (own_x p2) (own_b q1) (0 : Int64) (own_sh (own_b q1)) T3.heap n0 Z3 fk3_1 fk3_2 fk3_3 fk3_0 f1) hZ (hw _ (List.mem_of_getElem? (i := 28) rfl)) (hw _ (List.mem_of_getElem? (i := 8) rfl)) (by decide) (by decide)) q4a q4c (g := (mkF m 35 #[.val (.long q1), .second, .val (.int p2), .val (.int p3), .val (.int p4), .val (.long (own_b q1)), .second, .val (.ref b2), .val (.int (own_x p2)), .unset, .unset, .unset, .unset, .unset, .unset, .unset, .unset, .unset, .unset, .unset, .unset, .unset, .unset, .unset, .unset, .unset] [(.int (own_x p2)), (.int (0 : Int32)), (.ref b2)])) rfl (by rw [hml]; rfl) (Steps.refl _) (argsL := [(.int (0 : Int32)), (.int (own_x p2))]) (rest := []) (lenOf pd__II_Z_317 rfl) rfl (by show 2 * 0 + _ ≤ _; exact Nat.le_of_eq rfl) (hb hby at_35) (fun _ _ => ⟨rfl, rfl, (by decide : 1 + 0 ≤ _), (by decide : 3 + 0 ≤ _)⟩)
  dsimp only [Pt.U, Pt.locs, Pt.cells, Pt.slots] at X4 l4 y4 z4 st4 hQ4
  subst l4 y4 z4
  obtain ⟨rfl, N4q, K4, fk4_0, fk4_1, fk4_2, fk4_3⟩ := hQ4
  have f2 : n0 ≤ b2 := f1
  have Z4 : n0 ≤ T4.heap.size := Nat.le_trans Z3 K4.1
  have N4 := Fr.app N3 N4q
  have pre_5 : ∀ t, Steps p.tables e below (T4.setTop (mkF m 54 #[.val (.long q1), .second, .val (.int p2), .val (.int p3), .val (.int p4), .val (.long (own_b q1)), .second, .val (.ref b2), .val (.int (own_x p2)), .val (.int (own_rz (own_b q1) (0 : Int64) (0 : Int32) (own_x p2))), .unset, .unset, .unset, .unset, .unset, .unset, .unset, .unset, .unset, .unset, .unset, .unset, .unset, .unset, .unset, .unset] [(.int (if (0 : Int32) < (lcmpW ((own_x p2).toInt64) (own_b q1)) then (0 : Int32) else (1 : Int32)))])) t → Steps p.tables e below (s₁.setTop (entryFrame m #[(.long q1), (.int p2), (.int p3), (.int p4)] maxLocals)) t := by
    intro t k
    refine pre0 _ ?_
    show Steps p.tables e below (s₁.setTop (mkF m 0 #[.val (.long q1), .second, .val (.int p2), .val (.int p3), .val (.int p4), .unset, .unset, .unset, .unset, .unset, .unset, .unset, .unset, .unset, .unset, .unset, .unset, .unset, .unset, .unset, .unset, .unset, .unset, .unset, .unset, .unset] [])) _
    refine XS.lloadN X0.here hx rfl (hb hby at_0) rfl ?_
    show Steps p.tables e below (s₁.setTop (mkF m 1 #[.val (.long q1), .second, .val (.int p2), .val (.int p3), .val (.int p4), .unset, .unset, .unset, .unset, .unset, .unset, .unset, .unset, .unset, .unset, .unset, .unset, .unset, .unset, .unset, .unset, .unset, .unset, .unset, .unset, .unset] [(.long q1)])) _
    refine X0.ldc2Long hx hown (mvT hZ (hw _ (List.mem_of_getElem? (i := 0) rfl))) (g := (mkF m 1 #[.val (.long q1), .second, .val (.int p2), .val (.int p3), .val (.int p4), .unset, .unset, .unset, .unset, .unset, .unset, .unset, .unset, .unset, .unset, .unset, .unset, .unset, .unset, .unset, .unset, .unset, .unset, .unset, .unset, .unset] [(.long q1)])) rfl (hb hby at_1) _ ?_
    show Steps p.tables e below (s₁.setTop (mkF m 4 #[.val (.long q1), .second, .val (.int p2), .val (.int p3), .val (.int p4), .unset, .unset, .unset, .unset, .unset, .unset, .unset, .unset, .unset, .unset, .unset, .unset, .unset, .unset, .unset, .unset, .unset, .unset, .unset, .unset, .unset] [(.long (2147483647 : Int64)), (.long q1)])) _
    refine XS.land X0.here hx rfl (hb hby at_4) rfl ?_
    show Steps p.tables e below (s₁.setTop (mkF m 5 #[.val (.long q1), .second, .val (.int p2), .val (.int p3), .val (.int p4), .unset, .unset, .unset, .unset, .unset, .unset, .unset, .unset, .unset, .unset, .unset, .unset, .unset, .unset, .unset, .unset, .unset, .unset, .unset, .unset, .unset] [(.long (q1 &&& (2147483647 : Int64)))])) _
    refine X0.ldc2Long hx hown (mvT hZ (hw _ (List.mem_of_getElem? (i := 1) rfl))) (g := (mkF m 5 #[.val (.long q1), .second, .val (.int p2), .val (.int p3), .val (.int p4), .unset, .unset, .unset, .unset, .unset, .unset, .unset, .unset, .unset, .unset, .unset, .unset, .unset, .unset, .unset, .unset, .unset, .unset, .unset, .unset, .unset] [(.long (q1 &&& (2147483647 : Int64)))])) rfl (hb hby at_5) _ ?_
    show Steps p.tables e below (s₁.setTop (mkF m 8 #[.val (.long q1), .second, .val (.int p2), .val (.int p3), .val (.int p4), .unset, .unset, .unset, .unset, .unset, .unset, .unset, .unset, .unset, .unset, .unset, .unset, .unset, .unset, .unset, .unset, .unset, .unset, .unset, .unset, .unset] [(.long (2147483646 : Int64)), (.long (q1 &&& (2147483647 : Int64)))])) _
    refine st1 _ ?_
    show Steps p.tables e below (T1.setTop (mkF m 11 #[.val (.long q1), .second, .val (.int p2), .val (.int p3), .val (.int p4), .unset, .unset, .unset, .unset, .unset, .unset, .unset, .unset, .unset, .unset, .unset, .unset, .unset, .unset, .unset, .unset, .unset, .unset, .unset, .unset, .unset] [(.long (own_min (q1 &&& (2147483647 : Int64)) (2147483646 : Int64)))])) _
    refine XS.lstore X1.here hx rfl (hb hby at_11) rfl (l' := #[.val (.long q1), .second, .val (.int p2), .val (.int p3), .val (.int p4), .val (.long (own_min (q1 &&& (2147483647 : Int64)) (2147483646 : Int64))), .second, .unset, .unset, .unset, .unset, .unset, .unset, .unset, .unset, .unset, .unset, .unset, .unset, .unset, .unset, .unset, .unset, .unset, .unset, .unset]) rfl ?_
    show Steps p.tables e below (T1.setTop (mkF m 13 #[.val (.long q1), .second, .val (.int p2), .val (.int p3), .val (.int p4), .val (.long (own_b q1)), .second, .unset, .unset, .unset, .unset, .unset, .unset, .unset, .unset, .unset, .unset, .unset, .unset, .unset, .unset, .unset, .unset, .unset, .unset, .unset] [])) _
    refine st2 _ ?_
    show Steps p.tables e below (T2.setTop (mkF m 16 #[.val (.long q1), .second, .val (.int p2), .val (.int p3), .val (.int p4), .val (.long (own_b q1)), .second, .unset, .unset, .unset, .unset, .unset, .unset, .unset, .unset, .unset, .unset, .unset, .unset, .unset, .unset, .unset, .unset, .unset, .unset, .unset] [(.ref b2)])) _
    refine XS.dup X2.here hx rfl (hb hby at_16) rfl rfl ?_
    show Steps p.tables e below (T2.setTop (mkF m 17 #[.val (.long q1), .second, .val (.int p2), .val (.int p3), .val (.int p4), .val (.long (own_b q1)), .second, .unset, .unset, .unset, .unset, .unset, .unset, .unset, .unset, .unset, .unset, .unset, .unset, .unset, .unset, .unset, .unset, .unset, .unset, .unset] [(.ref b2), (.ref b2)])) _
    refine XS.lload X2.here hx rfl (hb hby at_17) rfl ?_
    show Steps p.tables e below (T2.setTop (mkF m 19 #[.val (.long q1), .second, .val (.int p2), .val (.int p3), .val (.int p4), .val (.long (own_b q1)), .second, .unset, .unset, .unset, .unset, .unset, .unset, .unset, .unset, .unset, .unset, .unset, .unset, .unset, .unset, .unset, .unset, .unset, .unset, .unset] [(.long (own_b q1)), (.ref b2), (.ref b2)])) _
    refine st3.trans ?_
    show Steps p.tables e below (T3.setTop (mkF m 22 #[.val (.long q1), .second, .val (.int p2), .val (.int p3), .val (.int p4), .val (.long (own_b q1)), .second, .unset, .unset, .unset, .unset, .unset, .unset, .unset, .unset, .unset, .unset, .unset, .unset, .unset, .unset, .unset, .unset, .unset, .unset, .unset] [(.ref b2)])) _
    refine XS.astore X3.here hx rfl (hb hby at_22) rfl rfl (l' := #[.val (.long q1), .second, .val (.int p2), .val (.int p3), .val (.int p4), .val (.long (own_b q1)), .second, .val (.ref b2), .unset, .unset, .unset, .unset, .unset, .unset, .unset, .unset, .unset, .unset, .unset, .unset, .unset, .unset, .unset, .unset, .unset, .unset]) rfl ?_
    show Steps p.tables e below (T3.setTop (mkF m 24 #[.val (.long q1), .second, .val (.int p2), .val (.int p3), .val (.int p4), .val (.long (own_b q1)), .second, .val (.ref b2), .unset, .unset, .unset, .unset, .unset, .unset, .unset, .unset, .unset, .unset, .unset, .unset, .unset, .unset, .unset, .unset, .unset, .unset] [])) _
    refine XS.iloadN X3.here hx rfl (hb hby at_24) rfl ?_
    show Steps p.tables e below (T3.setTop (mkF m 25 #[.val (.long q1), .second, .val (.int p2), .val (.int p3), .val (.int p4), .val (.long (own_b q1)), .second, .val (.ref b2), .unset, .unset, .unset, .unset, .unset, .unset, .unset, .unset, .unset, .unset, .unset, .unset, .unset, .unset, .unset, .unset, .unset, .unset] [(.int p2)])) _
    refine X3.ldcInt hx hown (mvT hZ (hw _ (List.mem_of_getElem? (i := 23) rfl))) (g := (mkF m 25 #[.val (.long q1), .second, .val (.int p2), .val (.int p3), .val (.int p4), .val (.long (own_b q1)), .second, .val (.ref b2), .unset, .unset, .unset, .unset, .unset, .unset, .unset, .unset, .unset, .unset, .unset, .unset, .unset, .unset, .unset, .unset, .unset, .unset] [(.int p2)])) rfl (hb hby at_25) _ ?_
    show Steps p.tables e below (T3.setTop (mkF m 27 #[.val (.long q1), .second, .val (.int p2), .val (.int p3), .val (.int p4), .val (.long (own_b q1)), .second, .val (.ref b2), .unset, .unset, .unset, .unset, .unset, .unset, .unset, .unset, .unset, .unset, .unset, .unset, .unset, .unset, .unset, .unset, .unset, .unset] [(.int (2147483647 : Int32)), (.int p2)])) _
    refine XS.iand X3.here hx rfl (hb hby at_27) rfl ?_
    show Steps p.tables e below (T3.setTop (mkF m 28 #[.val (.long q1), .second, .val (.int p2), .val (.int p3), .val (.int p4), .val (.long (own_b q1)), .second, .val (.ref b2), .unset, .unset, .unset, .unset, .unset, .unset, .unset, .unset, .unset, .unset, .unset, .unset, .unset, .unset, .unset, .unset, .unset, .unset] [(.int (p2 &&& (2147483647 : Int32)))])) _
    refine XS.istore X3.here hx rfl (hb hby at_28) rfl (l' := #[.val (.long q1), .second, .val (.int p2), .val (.int p3), .val (.int p4), .val (.long (own_b q1)), .second, .val (.ref b2), .val (.int (p2 &&& (2147483647 : Int32))), .unset, .unset, .unset, .unset, .unset, .unset, .unset, .unset, .unset, .unset, .unset, .unset, .unset, .unset, .unset, .unset, .unset]) rfl ?_
    show Steps p.tables e below (T3.setTop (mkF m 30 #[.val (.long q1), .second, .val (.int p2), .val (.int p3), .val (.int p4), .val (.long (own_b q1)), .second, .val (.ref b2), .val (.int (own_x p2)), .unset, .unset, .unset, .unset, .unset, .unset, .unset, .unset, .unset, .unset, .unset, .unset, .unset, .unset, .unset, .unset, .unset] [])) _
    refine XS.aload X3.here hx rfl (hb hby at_30) rfl rfl ?_
    show Steps p.tables e below (T3.setTop (mkF m 32 #[.val (.long q1), .second, .val (.int p2), .val (.int p3), .val (.int p4), .val (.long (own_b q1)), .second, .val (.ref b2), .val (.int (own_x p2)), .unset, .unset, .unset, .unset, .unset, .unset, .unset, .unset, .unset, .unset, .unset, .unset, .unset, .unset, .unset, .unset, .unset] [(.ref b2)])) _
    refine XS.iconst X3.here hx rfl (hb hby at_32) ?_
    show Steps p.tables e below (T3.setTop (mkF m 33 #[.val (.long q1), .second, .val (.int p2), .val (.int p3), .val (.int p4), .val (.long (own_b q1)), .second, .val (.ref b2), .val (.int (own_x p2)), .unset, .unset, .unset, .unset, .unset, .unset, .unset, .unset, .unset, .unset, .unset, .unset, .unset, .unset, .unset, .unset, .unset] [(.int (0 : Int32)), (.ref b2)])) _
    refine XS.iload X3.here hx rfl (hb hby at_33) rfl ?_
    show Steps p.tables e below (T3.setTop (mkF m 35 #[.val (.long q1), .second, .val (.int p2), .val (.int p3), .val (.int p4), .val (.long (own_b q1)), .second, .val (.ref b2), .val (.int (own_x p2)), .unset, .unset, .unset, .unset, .unset, .unset, .unset, .unset, .unset, .unset, .unset, .unset, .unset, .unset, .unset, .unset, .unset] [(.int (own_x p2)), (.int (0 : Int32)), (.ref b2)])) _
    refine st4.trans ?_
    show Steps p.tables e below (T4.setTop (mkF m 38 #[.val (.long q1), .second, .val (.int p2), .val (.int p3), .val (.int p4), .val (.long (own_b q1)), .second, .val (.ref b2), .val (.int (own_x p2)), .unset, .unset, .unset, .unset, .unset, .unset, .unset, .unset, .unset, .unset, .unset, .unset, .unset, .unset, .unset, .unset, .unset] [(.int (own_rz (own_b q1) (0 : Int64) (0 : Int32) (own_x p2)))])) _
    refine XS.istore X4.here hx rfl (hb hby at_38) rfl (l' := #[.val (.long q1), .second, .val (.int p2), .val (.int p3), .val (.int p4), .val (.long (own_b q1)), .second, .val (.ref b2), .val (.int (own_x p2)), .val (.int (own_rz (own_b q1) (0 : Int64) (0 : Int32) (own_x p2))), .unset, .unset, .unset, .unset, .unset, .unset, .unset, .unset, .unset, .unset, .unset, .unset, .unset, .unset, .unset, .unset]) rfl ?_
    show Steps p.tables e below (T4.setTop (mkF m 40 #[.val (.long q1), .second, .val (.int p2), .val (.int p3), .val (.int p4), .val (.long (own_b q1)), .second, .val (.ref b2), .val (.int (own_x p2)), .val (.int (own_rz (own_b q1) (0 : Int64) (0 : Int32) (own_x p2))), .unset, .unset, .unset, .unset, .unset, .unset, .unset, .unset, .unset, .unset, .unset, .unset, .unset, .unset, .unset, .unset] [])) _
    refine XS.iload X4.here hx rfl (hb hby at_40) rfl ?_
    show Steps p.tables e below (T4.setTop (mkF m 42 #[.val (.long q1), .second, .val (.int p2), .val (.int p3), .val (.int p4), .val (.long (own_b q1)), .second, .val (.ref b2), .val (.int (own_x p2)), .val (.int (own_rz (own_b q1) (0 : Int64) (0 : Int32) (own_x p2))), .unset, .unset, .unset, .unset, .unset, .unset, .unset, .unset, .unset, .unset, .unset, .unset, .unset, .unset, .unset, .unset] [(.int (own_x p2))])) _
    refine XS.i2l X4.here hx rfl (hb hby at_42) rfl ?_
    show Steps p.tables e below (T4.setTop (mkF m 43 #[.val (.long q1), .second, .val (.int p2), .val (.int p3), .val (.int p4), .val (.long (own_b q1)), .second, .val (.ref b2), .val (.int (own_x p2)), .val (.int (own_rz (own_b q1) (0 : Int64) (0 : Int32) (own_x p2))), .unset, .unset, .unset, .unset, .unset, .unset, .unset, .unset, .unset, .unset, .unset, .unset, .unset, .unset, .unset, .unset] [(.long ((own_x p2).toInt64))])) _
    refine XS.lload X4.here hx rfl (hb hby at_43) rfl ?_
    show Steps p.tables e below (T4.setTop (mkF m 45 #[.val (.long q1), .second, .val (.int p2), .val (.int p3), .val (.int p4), .val (.long (own_b q1)), .second, .val (.ref b2), .val (.int (own_x p2)), .val (.int (own_rz (own_b q1) (0 : Int64) (0 : Int32) (own_x p2))), .unset, .unset, .unset, .unset, .unset, .unset, .unset, .unset, .unset, .unset, .unset, .unset, .unset, .unset, .unset, .unset] [(.long (own_b q1)), (.long ((own_x p2).toInt64))])) _
    refine XS.lcmp X4.here hx rfl (hb hby at_45) rfl ?_
    show Steps p.tables e below (T4.setTop (mkF m 46 #[.val (.long q1), .second, .val (.int p2), .val (.int p3), .val (.int p4), .val (.long (own_b q1)), .second, .val (.ref b2), .val (.int (own_x p2)), .val (.int (own_rz (own_b q1) (0 : Int64) (0 : Int32) (own_x p2))), .unset, .unset, .unset, .unset, .unset, .unset, .unset, .unset, .unset, .unset, .unset, .unset, .unset, .unset, .unset, .unset] [(.int (lcmpW ((own_x p2).toInt64) (own_b q1)))])) _
    by_cases hc46 : (0 : Int32) < (lcmpW ((own_x p2).toInt64) (own_b q1))
    · rw [if_pos hc46] at k
      refine XS.ifYes X4.here hx rfl (pc0 := 46) (pc' := 53) rfl (hb hby at_46) rfl ((if0 _ _).trans (tlt hc46).2.2.1) (by decide) (by decide) ?_
      show Steps p.tables e below (T4.setTop (mkF m 53 #[.val (.long q1), .second, .val (.int p2), .val (.int p3), .val (.int p4), .val (.long (own_b q1)), .second, .val (.ref b2), .val (.int (own_x p2)), .val (.int (own_rz (own_b q1) (0 : Int64) (0 : Int32) (own_x p2))), .unset, .unset, .unset, .unset, .unset, .unset, .unset, .unset, .unset, .unset, .unset, .unset, .unset, .unset, .unset, .unset] [])) _
      refine XS.iconst X4.here hx rfl (hb hby at_53) ?_
      exact k
    · rw [if_neg hc46] at k
      refine XS.ifNo X4.here hx rfl (hb hby at_46) rfl ((if0 _ _).trans (flt hc46).2.2.1) ?_
      show Steps p.tables e below (T4.setTop (mkF m 49 #[.val (.long q1), .second, .val (.int p2), .val (.int p3), .val (.int p4), .val (.long (own_b q1)), .second, .val (.ref b2), .val (.int (own_x p2)), .val (.int (own_rz (own_b q1) (0 : Int64) (0 : Int32) (own_x p2))), .unset, .unset, .unset, .unset, .unset, .unset, .unset, .unset, .unset, .unset, .unset, .unset, .unset, .unset, .unset, .unset] [])) _
      refine XS.iconst X4.here hx rfl (hb hby at_49) ?_
      show Steps p.tables e below (T4.setTop (mkF m 50 #[.val (.long q1), .second, .val (.int p2), .val (.int p3), .val (.int p4), .val (.long (own_b q1)), .second, .val (.ref b2), .val (.int (own_x p2)), .val (.int (own_rz (own_b q1) (0 : Int64) (0 : Int32) (own_x p2))), .unset, .unset, .unset, .unset, .unset, .unset, .unset, .unset, .unset, .unset, .unset, .unset, .unset, .unset, .unset, .unset] [(.int (1 : Int32))])) _
      refine XS.goto X4.here hx rfl (pc0 := 50) (pc' := 54) rfl (hb hby at_50) (by decide) (by decide) ?_
      exact k
  have pre_6 : ∀ t, Steps p.tables e below (T4.setTop (mkF m 68 #[.val (.long q1), .second, .val (.int p2), .val (.int p3), .val (.int p4), .val (.long (own_b q1)), .second, .val (.ref b2), .val (.int (own_x p2)), .val (.int (own_rz (own_b q1) (0 : Int64) (0 : Int32) (own_x p2))), .val (.int (own_e1 q1 p2)), .unset, .unset, .unset, .unset, .unset, .unset, .unset, .unset, .unset, .unset, .unset, .unset, .unset, .unset, .unset] [(.long (if (own_e1 q1 p2) = (0 : Int32) then (0 : Int64) else ((own_x p2).toInt64)))])) t → Steps p.tables e below (s₁.setTop (entryFrame m #[(.long q1), (.int p2), (.int p3), (.int p4)] maxLocals)) t := by
    intro t k
    refine pre_5 _ ?_
    show Steps p.tables e below (T4.setTop (mkF m 54 #[.val (.long q1), .second, .val (.int p2), .val (.int p3), .val (.int p4), .val (.long (own_b q1)), .second, .val (.ref b2), .val (.int (own_x p2)), .val (.int (own_rz (own_b q1) (0 : Int64) (0 : Int32) (own_x p2))), .unset, .unset, .unset, .unset, .unset, .unset, .unset, .unset, .unset, .unset, .unset, .unset, .unset, .unset, .unset, .unset] [(.int (own_e1 q1 p2))])) _
    refine XS.istore X4.here hx rfl (hb hby at_54) rfl (l' := #[.val (.long q1), .second, .val (.int p2), .val (.int p3), .val (.int p4), .val (.long (own_b q1)), .second, .val (.ref b2), .val (.int (own_x p2)), .val (.int (own_rz (own_b q1) (0 : Int64) (0 : Int32) (own_x p2))), .val (.int (own_e1 q1 p2)), .unset, .unset, .unset, .unset, .unset, .unset, .unset, .unset, .unset, .unset, .unset, .unset, .unset, .unset, .unset]) rfl ?_
    show Steps p.tables e below (T4.setTop (mkF m 56 #[.val (.long q1), .second, .val (.int p2), .val (.int p3), .val (.int p4), .val (.long (own_b q1)), .second, .val (.ref b2), .val (.int (own_x p2)), .val (.int (own_rz (own_b q1) (0 : Int64) (0 : Int32) (own_x p2))), .val (.int (own_e1 q1 p2)), .unset, .unset, .unset, .unset, .unset, .unset, .unset, .unset, .unset, .unset, .unset, .unset, .unset, .unset, .unset] [])) _
    refine XS.iload X4.here hx rfl (hb hby at_56) rfl ?_
    show Steps p.tables e below (T4.setTop (mkF m 58 #[.val (.long q1), .second, .val (.int p2), .val (.int p3), .val (.int p4), .val (.long (own_b q1)), .second, .val (.ref b2), .val (.int (own_x p2)), .val (.int (own_rz (own_b q1) (0 : Int64) (0 : Int32) (own_x p2))), .val (.int (own_e1 q1 p2)), .unset, .unset, .unset, .unset, .unset, .unset, .unset, .unset, .unset, .unset, .unset, .unset, .unset, .unset, .unset] [(.int (own_e1 q1 p2))])) _
    by_cases hc58 : (own_e1 q1 p2) = (0 : Int32)
    · rw [if_pos hc58] at k
      refine XS.ifYes X4.here hx rfl (pc0 := 58) (pc' := 67) rfl (hb hby at_58) rfl ((if0 _ _).trans (teq hc58).1) (by decide) (by decide) ?_
      show Steps p.tables e below (T4.setTop (mkF m 67 #[.val (.long q1), .second, .val (.int p2), .val (.int p3), .val (.int p4), .val (.long (own_b q1)), .second, .val (.ref b2), .val (.int (own_x p2)), .val (.int (own_rz (own_b q1) (0 : Int64) (0 : Int32) (own_x p2))), .val (.int (own_e1 q1 p2)), .unset, .unset, .unset, .unset, .unset, .unset, .unset, .unset, .unset, .unset, .unset, .unset, .unset, .unset, .unset] [])) _
      refine XS.lconst X4.here hx rfl (hb hby at_67) ?_
      exact k
    · rw [if_neg hc58] at k
      refine XS.ifNo X4.here hx rfl (hb hby at_58) rfl ((if0 _ _).trans (feq hc58).1) ?_
      show Steps p.tables e below (T4.setTop (mkF m 61 #[.val (.long q1), .second, .val (.int p2), .val (.int p3), .val (.int p4), .val (.long (own_b q1)), .second, .val (.ref b2), .val (.int (own_x p2)), .val (.int (own_rz (own_b q1) (0 : Int64) (0 : Int32) (own_x p2))), .val (.int (own_e1 q1 p2)), .unset, .unset, .unset, .unset, .unset, .unset, .unset, .unset, .unset, .unset, .unset, .unset, .unset, .unset, .unset] [])) _
      refine XS.iload X4.here hx rfl (hb hby at_61) rfl ?_
      show Steps p.tables e below (T4.setTop (mkF m 63 #[.val (.long q1), .second, .val (.int p2), .val (.int p3), .val (.int p4), .val (.long (own_b q1)), .second, .val (.ref b2), .val (.int (own_x p2)), .val (.int (own_rz (own_b q1) (0 : Int64) (0 : Int32) (own_x p2))), .val (.int (own_e1 q1 p2)), .unset, .unset, .unset, .unset, .unset, .unset, .unset, .unset, .unset, .unset, .unset, .unset, .unset, .unset, .unset] [(.int (own_x p2))])) _
      refine XS.i2l X4.here hx rfl (hb hby at_63) rfl ?_
      show Steps p.tables e below (T4.setTop (mkF m 64 #[.val (.long q1), .second, .val (.int p2), .val (.int p3), .val (.int p4), .val (.long (own_b q1)), .second, .val (.ref b2), .val (.int (own_x p2)), .val (.int (own_rz (own_b q1) (0 : Int64) (0 : Int32) (own_x p2))), .val (.int (own_e1 q1 p2)), .unset, .unset, .unset, .unset, .unset, .unset, .unset, .unset, .unset, .unset, .unset, .unset, .unset, .unset, .unset] [(.long ((own_x p2).toInt64))])) _
      refine XS.goto X4.here hx rfl (pc0 := 64) (pc' := 68) rfl (hb hby at_64) (by decide) (by decide) ?_
      exact k
  obtain ⟨cq7, kq7, q7a, q7b, q7c⟩ := isOf hZ rfl fk4_0
  obtain ⟨_, _, ⟨T7, L7, k7, n7⟩, -, X7, ⟨Lc7, hQ7, l7, y7, z7⟩, st7⟩ := X4.virtualBack hx (y := (⟨"com/example/mountwright/mountwright/server/RequestBudget", "resize", "(II)Z"⟩ : MethodName)) (z := (⟨"com/example/mountwright/mountwright/server/RequestBudget", "resize", "(II)Z"⟩ : MethodName)) hown (mvT hZ (hw _ (List.mem_of_getElem? (i := 24) rfl))) (mvT hZ (hw _ (List.mem_of_getElem? (i := 25) rfl))) (notFace_of_selects (args := #[]) (mvT hZ (hw _ (List.mem_of_getElem? (i := 27) rfl)))) (mvT hZ (hw _ (List.mem_of_getElem? (i := 27) rfl))) (mvT hZ (hw _ (List.mem_of_getElem? (i := 26) rfl))) (by decide) (backOf (W := 0) (rm_rz l Z a0 hw [] b2 (own_h q1 p2 p3) (own_x p4) (own_b q1) (own_d1 q1 p2) (own_sh (own_b q1)) T4.heap n0 Z4 fk4_1 fk4_2 fk4_3 fk4_0 f2) hZ (hw _ (List.mem_of_getElem? (i := 28) rfl)) (hw _ (List.mem_of_getElem? (i := 8) rfl)) (by decide) (by decide)) q7a q7c (g := (mkF m 97 #[.val (.long q1), .second, .val (.int p2), .val (.int p3), .val (.int p4), .val (.long (own_b q1)), .second, .val (.ref b2), .val (.int (own_x p2)), .val (.int (own_rz (own_b q1) (0 : Int64) (0 : Int32) (own_x p2))), .val (.int (own_e1 q1 p2)), .val (.long (own_h1 q1 p2)), .second, .val (.int (own_h q1 p2 p3)), .val (.int (own_x p4)), .unset, .unset, .unset, .unset, .unset, .unset, .unset, .unset, .unset, .unset, .unset] [(.int (own_x p4)), (.int (own_h q1 p2 p3)), (.ref b2)])) rfl (by rw [hml]; rfl) (Steps.refl _) (argsL := [(.int (own_h q1 p2 p3)), (.int (own_x p4))]) (rest := []) (lenOf pd__II_Z_317 rfl) rfl (by show 2 * 0 + _ ≤ _; exact Nat.le_of_eq rfl) (hb hby at_97) (fun _ _ => ⟨rfl, rfl, (by decide : 1 + 0 ≤ _), (by decide : 3 + 0 ≤ _)⟩)
  dsimp only [Pt.U, Pt.locs, Pt.cells, Pt.slots] at X7 l7 y7 z7 st7 hQ7
  subst l7 y7 z7
  obtain ⟨rfl, N7q, K7, fk7_0, fk7_1, fk7_2, fk7_3⟩ := hQ7
  have f3 : n0 ≤ b2 := f2
  have Z7 : n0 ≤ T7.heap.size := Nat.le_trans Z4 K7.1
  have N7 := Fr.app N4 N7q
  have pre_8 : ∀ t, Steps p.tables e below (T7.setTop (mkF m 127 #[.val (.long q1), .second, .val (.int p2), .val (.int p3), .val (.int p4), .val (.long (own_b q1)), .second, .val (.ref b2), .val (.int (own_x p2)), .val (.int (own_rz (own_b q1) (0 : Int64) (0 : Int32) (own_x p2))), .val (.int (own_e1 q1 p2)), .val (.long (own_h1 q1 p2)), .second, .val (.int (own_h q1 p2 p3)), .val (.int (own_x p4)), .val (.int (own_rz (own_b q1) (own_d1 q1 p2) (own_h q1 p2 p3) (own_x p4))), .val (.long (own_more q1 p2 p3 p4)), .second, .unset, .unset, .unset, .unset, .unset, .unset, .unset, .unset] [(.int (if (0 : Int32) < (lcmpW ((own_h1 q1 p2) + (own_more q1 p2 p3 p4)) (own_b q1)) then (0 : Int32) else (1 : Int32)))])) t → Steps p.tables e below (s₁.setTop (entryFrame m #[(.long q1), (.int p2), (.int p3), (.int p4)] maxLocals)) t := by
    intro t k
    refine pre_6 _ ?_
    show Steps p.tables e below (T4.setTop (mkF m 68 #[.val (.long q1), .second, .val (.int p2), .val (.int p3), .val (.int p4), .val (.long (own_b q1)), .second, .val (.ref b2), .val (.int (own_x p2)), .val (.int (own_rz (own_b q1) (0 : Int64) (0 : Int32) (own_x p2))), .val (.int (own_e1 q1 p2)), .unset, .unset, .unset, .unset, .unset, .unset, .unset, .unset, .unset, .unset, .unset, .unset, .unset, .unset, .unset] [(.long (own_h1 q1 p2))])) _
    refine XS.lstore X4.here hx rfl (hb hby at_68) rfl (l' := #[.val (.long q1), .second, .val (.int p2), .val (.int p3), .val (.int p4), .val (.long (own_b q1)), .second, .val (.ref b2), .val (.int (own_x p2)), .val (.int (own_rz (own_b q1) (0 : Int64) (0 : Int32) (own_x p2))), .val (.int (own_e1 q1 p2)), .val (.long (own_h1 q1 p2)), .second, .unset, .unset, .unset, .unset, .unset, .unset, .unset, .unset, .unset, .unset, .unset, .unset, .unset]) rfl ?_
    show Steps p.tables e below (T4.setTop (mkF m 70 #[.val (.long q1), .second, .val (.int p2), .val (.int p3), .val (.int p4), .val (.long (own_b q1)), .second, .val (.ref b2), .val (.int (own_x p2)), .val (.int (own_rz (own_b q1) (0 : Int64) (0 : Int32) (own_x p2))), .val (.int (own_e1 q1 p2)), .val (.long (own_h1 q1 p2)), .second, .unset, .unset, .unset, .unset, .unset, .unset, .unset, .unset, .unset, .unset, .unset, .unset, .unset] [])) _
    refine XS.iloadN X4.here hx rfl (hb hby at_70) rfl ?_
    show Steps p.tables e below (T4.setTop (mkF m 71 #[.val (.long q1), .second, .val (.int p2), .val (.int p3), .val (.int p4), .val (.long (own_b q1)), .second, .val (.ref b2), .val (.int (own_x p2)), .val (.int (own_rz (own_b q1) (0 : Int64) (0 : Int32) (own_x p2))), .val (.int (own_e1 q1 p2)), .val (.long (own_h1 q1 p2)), .second, .unset, .unset, .unset, .unset, .unset, .unset, .unset, .unset, .unset, .unset, .unset, .unset, .unset] [(.int p3)])) _
    refine XS.i2l X4.here hx rfl (hb hby at_71) rfl ?_
    show Steps p.tables e below (T4.setTop (mkF m 72 #[.val (.long q1), .second, .val (.int p2), .val (.int p3), .val (.int p4), .val (.long (own_b q1)), .second, .val (.ref b2), .val (.int (own_x p2)), .val (.int (own_rz (own_b q1) (0 : Int64) (0 : Int32) (own_x p2))), .val (.int (own_e1 q1 p2)), .val (.long (own_h1 q1 p2)), .second, .unset, .unset, .unset, .unset, .unset, .unset, .unset, .unset, .unset, .unset, .unset, .unset, .unset] [(.long (p3.toInt64))])) _
    refine X4.ldc2Long hx hown (mvT hZ (hw _ (List.mem_of_getElem? (i := 0) rfl))) (g := (mkF m 72 #[.val (.long q1), .second, .val (.int p2), .val (.int p3), .val (.int p4), .val (.long (own_b q1)), .second, .val (.ref b2), .val (.int (own_x p2)), .val (.int (own_rz (own_b q1) (0 : Int64) (0 : Int32) (own_x p2))), .val (.int (own_e1 q1 p2)), .val (.long (own_h1 q1 p2)), .second, .unset, .unset, .unset, .unset, .unset, .unset, .unset, .unset, .unset, .unset, .unset, .unset, .unset] [(.long (p3.toInt64))])) rfl (hb hby at_72) _ ?_
    show Steps p.tables e below (T4.setTop (mkF m 75 #[.val (.long q1), .second, .val (.int p2), .val (.int p3), .val (.int p4), .val (.long (own_b q1)), .second, .val (.ref b2), .val (.int (own_x p2)), .val (.int (own_rz (own_b q1) (0 : Int64) (0 : Int32) (own_x p2))), .val (.int (own_e1 q1 p2)), .val (.long (own_h1 q1 p2)), .second, .unset, .unset, .unset, .unset, .unset, .unset, .unset, .unset, .unset, .unset, .unset, .unset, .unset] [(.long (2147483647 : Int64)), (.long (p3.toInt64))])) _
    refine XS.land X4.here hx rfl (hb hby at_75) rfl ?_
    show Steps p.tables e below (T4.setTop (mkF m 76 #[.val (.long q1), .second, .val (.int p2), .val (.int p3), .val (.int p4), .val (.long (own_b q1)), .second, .val (.ref b2), .val (.int (own_x p2)), .val (.int (own_rz (own_b q1) (0 : Int64) (0 : Int32) (own_x p2))), .val (.int (own_e1 q1 p2)), .val (.long (own_h1 q1 p2)), .second, .unset, .unset, .unset, .unset, .unset, .unset, .unset, .unset, .unset, .unset, .unset, .unset, .unset] [(.long ((p3.toInt64) &&& (2147483647 : Int64)))])) _
    refine XS.lload X4.here hx rfl (hb hby at_76) rfl ?_
    show Steps p.tables e below (T4.setTop (mkF m 78 #[.val (.long q1), .second, .val (.int p2), .val (.int p3), .val (.int p4), .val (.long (own_b q1)), .second, .val (.ref b2), .val (.int (own_x p2)), .val (.int (own_rz (own_b q1) (0 : Int64) (0 : Int32) (own_x p2))), .val (.int (own_e1 q1 p2)), .val (.long (own_h1 q1 p2)), .second, .unset, .unset, .unset, .unset, .unset, .unset, .unset, .unset, .unset, .unset, .unset, .unset, .unset] [(.long (own_h1 q1 p2)), (.long ((p3.toInt64) &&& (2147483647 : Int64)))])) _
    refine XS.lconst X4.here hx rfl (hb hby at_78) ?_
    show Steps p.tables e below (T4.setTop (mkF m 79 #[.val (.long q1), .second, .val (.int p2), .val (.int p3), .val (.int p4), .val (.long (own_b q1)), .second, .val (.ref b2), .val (.int (own_x p2)), .val (.int (own_rz (own_b q1) (0 : Int64) (0 : Int32) (own_x p2))), .val (.int (own_e1 q1 p2)), .val (.long (own_h1 q1 p2)), .second, .unset, .unset, .unset, .unset, .unset, .unset, .unset, .unset, .unset, .unset, .unset, .unset, .unset] [(.long (1 : Int64)), (.long (own_h1 q1 p2)), (.long ((p3.toInt64) &&& (2147483647 : Int64)))])) _
    refine XS.ladd X4.here hx rfl (hb hby at_79) rfl ?_
    show Steps p.tables e below (T4.setTop (mkF m 80 #[.val (.long q1), .second, .val (.int p2), .val (.int p3), .val (.int p4), .val (.long (own_b q1)), .second, .val (.ref b2), .val (.int (own_x p2)), .val (.int (own_rz (own_b q1) (0 : Int64) (0 : Int32) (own_x p2))), .val (.int (own_e1 q1 p2)), .val (.long (own_h1 q1 p2)), .second, .unset, .unset, .unset, .unset, .unset, .unset, .unset, .unset, .unset, .unset, .unset, .unset, .unset] [(.long ((own_h1 q1 p2) + (1 : Int64))), (.long ((p3.toInt64) &&& (2147483647 : Int64)))])) _
    refine XS.lrem X4.here hx rfl (hb hby at_80) rfl (own_nz q1 p2) ?_
    show Steps p.tables e below (T4.setTop (mkF m 81 #[.val (.long q1), .second, .val (.int p2), .val (.int p3), .val (.int p4), .val (.long (own_b q1)), .second, .val (.ref b2), .val (.int (own_x p2)), .val (.int (own_rz (own_b q1) (0 : Int64) (0 : Int32) (own_x p2))), .val (.int (own_e1 q1 p2)), .val (.long (own_h1 q1 p2)), .second, .unset, .unset, .unset, .unset, .unset, .unset, .unset, .unset, .unset, .unset, .unset, .unset, .unset] [(.long (((p3.toInt64) &&& (2147483647 : Int64)) - (((p3.toInt64) &&& (2147483647 : Int64)) / ((own_h1 q1 p2) + (1 : Int64))) * ((own_h1 q1 p2) + (1 : Int64))))])) _
    refine XS.l2i X4.here hx rfl (hb hby at_81) rfl ?_
    show Steps p.tables e below (T4.setTop (mkF m 82 #[.val (.long q1), .second, .val (.int p2), .val (.int p3), .val (.int p4), .val (.long (own_b q1)), .second, .val (.ref b2), .val (.int (own_x p2)), .val (.int (own_rz (own_b q1) (0 : Int64) (0 : Int32) (own_x p2))), .val (.int (own_e1 q1 p2)), .val (.long (own_h1 q1 p2)), .second, .unset, .unset, .unset, .unset, .unset, .unset, .unset, .unset, .unset, .unset, .unset, .unset, .unset] [(.int ((((p3.toInt64) &&& (2147483647 : Int64)) - (((p3.toInt64) &&& (2147483647 : Int64)) / ((own_h1 q1 p2) + (1 : Int64))) * ((own_h1 q1 p2) + (1 : Int64))).toInt32))])) _
    refine XS.istore X4.here hx rfl (hb hby at_82) rfl (l' := #[.val (.long q1), .second, .val (.int p2), .val (.int p3), .val (.int p4), .val (.long (own_b q1)), .second, .val (.ref b2), .val (.int (own_x p2)), .val (.int (own_rz (own_b q1) (0 : Int64) (0 : Int32) (own_x p2))), .val (.int (own_e1 q1 p2)), .val (.long (own_h1 q1 p2)), .second, .val (.int ((((p3.toInt64) &&& (2147483647 : Int64)) - (((p3.toInt64) &&& (2147483647 : Int64)) / ((own_h1 q1 p2) + (1 : Int64))) * ((own_h1 q1 p2) + (1 : Int64))).toInt32)), .unset, .unset, .unset, .unset, .unset, .unset, .unset, .unset, .unset, .unset, .unset, .unset]) rfl ?_
    show Steps p.tables e below (T4.setTop (mkF m 84 #[.val (.long q1), .second, .val (.int p2), .val (.int p3), .val (.int p4), .val (.long (own_b q1)), .second, .val (.ref b2), .val (.int (own_x p2)), .val (.int (own_rz (own_b q1) (0 : Int64) (0 : Int32) (own_x p2))), .val (.int (own_e1 q1 p2)), .val (.long (own_h1 q1 p2)), .second, .val (.int (own_h q1 p2 p3)), .unset, .unset, .unset, .unset, .unset, .unset, .unset, .unset, .unset, .unset, .unset, .unset] [])) _
    refine XS.iload X4.here hx rfl (hb hby at_84) rfl ?_
    show Steps p.tables e below (T4.setTop (mkF m 86 #[.val (.long q1), .second, .val (.int p2), .val (.int p3), .val (.int p4), .val (.long (own_b q1)), .second, .val (.ref b2), .val (.int (own_x p2)), .val (.int (own_rz (own_b q1) (0 : Int64) (0 : Int32) (own_x p2))), .val (.int (own_e1 q1 p2)), .val (.long (own_h1 q1 p2)), .second, .val (.int (own_h q1 p2 p3)), .unset, .unset, .unset, .unset, .unset, .unset, .unset, .unset, .unset, .unset, .unset, .unset] [(.int p4)])) _
    refine X4.ldcInt hx hown (mvT hZ (hw _ (List.mem_of_getElem? (i := 23) rfl))) (g := (mkF m 86 #[.val (.long q1), .second, .val (.int p2), .val (.int p3), .val (.int p4), .val (.long (own_b q1)), .second, .val (.ref b2), .val (.int (own_x p2)), .val (.int (own_rz (own_b q1) (0 : Int64) (0 : Int32) (own_x p2))), .val (.int (own_e1 q1 p2)), .val (.long (own_h1 q1 p2)), .second, .val (.int (own_h q1 p2 p3)), .unset, .unset, .unset, .unset, .unset, .unset, .unset, .unset, .unset, .unset, .unset, .unset] [(.int p4)])) rfl (hb hby at_86) _ ?_
    show Steps p.tables e below (T4.setTop (mkF m 88 #[.val (.long q1), .second, .val (.int p2), .val (.int p3), .val (.int p4), .val (.long (own_b q1)), .second, .val (.ref b2), .val (.int (own_x p2)), .val (.int (own_rz (own_b q1) (0 : Int64) (0 : Int32) (own_x p2))), .val (.int (own_e1 q1 p2)), .val (.long (own_h1 q1 p2)), .second, .val (.int (own_h q1 p2 p3)), .unset, .unset, .unset, .unset, .unset, .unset, .unset, .unset, .unset, .unset, .unset, .unset] [(.int (2147483647 : Int32)), (.int p4)])) _
    refine XS.iand X4.here hx rfl (hb hby at_88) rfl ?_
    show Steps p.tables e below (T4.setTop (mkF m 89 #[.val (.long q1), .second, .val (.int p2), .val (.int p3), .val (.int p4), .val (.long (own_b q1)), .second, .val (.ref b2), .val (.int (own_x p2)), .val (.int (own_rz (own_b q1) (0 : Int64) (0 : Int32) (own_x p2))), .val (.int (own_e1 q1 p2)), .val (.long (own_h1 q1 p2)), .second, .val (.int (own_h q1 p2 p3)), .unset, .unset, .unset, .unset, .unset, .unset, .unset, .unset, .unset, .unset, .unset, .unset] [(.int (p4 &&& (2147483647 : Int32)))])) _
    refine XS.istore X4.here hx rfl (hb hby at_89) rfl (l' := #[.val (.long q1), .second, .val (.int p2), .val (.int p3), .val (.int p4), .val (.long (own_b q1)), .second, .val (.ref b2), .val (.int (own_x p2)), .val (.int (own_rz (own_b q1) (0 : Int64) (0 : Int32) (own_x p2))), .val (.int (own_e1 q1 p2)), .val (.long (own_h1 q1 p2)), .second, .val (.int (own_h q1 p2 p3)), .val (.int (p4 &&& (2147483647 : Int32))), .unset, .unset, .unset, .unset, .unset, .unset, .unset, .unset, .unset, .unset, .unset]) rfl ?_
    show Steps p.tables e below (T4.setTop (mkF m 91 #[.val (.long q1), .second, .val (.int p2), .val (.int p3), .val (.int p4), .val (.long (own_b q1)), .second, .val (.ref b2), .val (.int (own_x p2)), .val (.int (own_rz (own_b q1) (0 : Int64) (0 : Int32) (own_x p2))), .val (.int (own_e1 q1 p2)), .val (.long (own_h1 q1 p2)), .second, .val (.int (own_h q1 p2 p3)), .val (.int (own_x p4)), .unset, .unset, .unset, .unset, .unset, .unset, .unset, .unset, .unset, .unset, .unset] [])) _
    refine XS.aload X4.here hx rfl (hb hby at_91) rfl rfl ?_
    show Steps p.tables e below (T4.setTop (mkF m 93 #[.val (.long q1), .second, .val (.int p2), .val (.int p3), .val (.int p4), .val (.long (own_b q1)), .second, .val (.ref b2), .val (.int (own_x p2)), .val (.int (own_rz (own_b q1) (0 : Int64) (0 : Int32) (own_x p2))), .val (.int (own_e1 q1 p2)), .val (.long (own_h1 q1 p2)), .second, .val (.int (own_h q1 p2 p3)), .val (.int (own_x p4)), .unset, .unset, .unset, .unset, .unset, .unset, .unset, .unset, .unset, .unset, .unset] [(.ref b2)])) _
    refine XS.iload X4.here hx rfl (hb hby at_93) rfl ?_
    show Steps p.tables e below (T4.setTop (mkF m 95 #[.val (.long q1), .second, .val (.int p2), .val (.int p3), .val (.int p4), .val (.long (own_b q1)), .second, .val (.ref b2), .val (.int (own_x p2)), .val (.int (own_rz (own_b q1) (0 : Int64) (0 : Int32) (own_x p2))), .val (.int (own_e1 q1 p2)), .val (.long (own_h1 q1 p2)), .second, .val (.int (own_h q1 p2 p3)), .val (.int (own_x p4)), .unset, .unset, .unset, .unset, .unset, .unset, .unset, .unset, .unset, .unset, .unset] [(.int (own_h q1 p2 p3)), (.ref b2)])) _
    refine XS.iload X4.here hx rfl (hb hby at_95) rfl ?_
    show Steps p.tables e below (T4.setTop (mkF m 97 #[.val (.long q1), .second, .val (.int p2), .val (.int p3), .val (.int p4), .val (.long (own_b q1)), .second, .val (.ref b2), .val (.int (own_x p2)), .val (.int (own_rz (own_b q1) (0 : Int64) (0 : Int32) (own_x p2))), .val (.int (own_e1 q1 p2)), .val (.long (own_h1 q1 p2)), .second, .val (.int (own_h q1 p2 p3)), .val (.int (own_x p4)), .unset, .unset, .unset, .unset, .unset, .unset, .unset, .unset, .unset, .unset, .unset] [(.int (own_x p4)), (.int (own_h q1 p2 p3)), (.ref b2)])) _
    refine st7.trans ?_
    show Steps p.tables e below (T7.setTop (mkF m 100 #[.val (.long q1), .second, .val (.int p2), .val (.int p3), .val (.int p4), .val (.long (own_b q1)), .second, .val (.ref b2), .val (.int (own_x p2)), .val (.int (own_rz (own_b q1) (0 : Int64) (0 : Int32) (own_x p2))), .val (.int (own_e1 q1 p2)), .val (.long (own_h1 q1 p2)), .second, .val (.int (own_h q1 p2 p3)), .val (.int (own_x p4)), .unset, .unset, .unset, .unset, .unset, .unset, .unset, .unset, .unset, .unset, .unset] [(.int (own_rz (own_b q1) (own_d1 q1 p2) (own_h q1 p2 p3) (own_x p4)))])) _
    refine XS.istore X7.here hx rfl (hb hby at_100) rfl (l' := #[.val (.long q1), .second, .val (.int p2), .val (.int p3), .val (.int p4), .val (.long (own_b q1)), .second, .val (.ref b2), .val (.int (own_x p2)), .val (.int (own_rz (own_b q1) (0 : Int64) (0 : Int32) (own_x p2))), .val (.int (own_e1 q1 p2)), .val (.long (own_h1 q1 p2)), .second, .val (.int (own_h q1 p2 p3)), .val (.int (own_x p4)), .val (.int (own_rz (own_b q1) (own_d1 q1 p2) (own_h q1 p2 p3) (own_x p4))), .unset, .unset, .unset, .unset, .unset, .unset, .unset, .unset, .unset, .unset]) rfl ?_
    show Steps p.tables e below (T7.setTop (mkF m 102 #[.val (.long q1), .second, .val (.int p2), .val (.int p3), .val (.int p4), .val (.long (own_b q1)), .second, .val (.ref b2), .val (.int (own_x p2)), .val (.int (own_rz (own_b q1) (0 : Int64) (0 : Int32) (own_x p2))), .val (.int (own_e1 q1 p2)), .val (.long (own_h1 q1 p2)), .second, .val (.int (own_h q1 p2 p3)), .val (.int (own_x p4)), .val (.int (own_rz (own_b q1) (own_d1 q1 p2) (own_h q1 p2 p3) (own_x p4))), .unset, .unset, .unset, .unset, .unset, .unset, .unset, .unset, .unset, .unset] [])) _
    refine XS.iload X7.here hx rfl (hb hby at_102) rfl ?_
    show Steps p.tables e below (T7.setTop (mkF m 104 #[.val (.long q1), .second, .val (.int p2), .val (.int p3), .val (.int p4), .val (.long (own_b q1)), .second, .val (.ref b2), .val (.int (own_x p2)), .val (.int (own_rz (own_b q1) (0 : Int64) (0 : Int32) (own_x p2))), .val (.int (own_e1 q1 p2)), .val (.long (own_h1 q1 p2)), .second, .val (.int (own_h q1 p2 p3)), .val (.int (own_x p4)), .val (.int (own_rz (own_b q1) (own_d1 q1 p2) (own_h q1 p2 p3) (own_x p4))), .unset, .unset, .unset, .unset, .unset, .unset, .unset, .unset, .unset, .unset] [(.int (own_x p4))])) _
    refine XS.i2l X7.here hx rfl (hb hby at_104) rfl ?_
    show Steps p.tables e below (T7.setTop (mkF m 105 #[.val (.long q1), .second, .val (.int p2), .val (.int p3), .val (.int p4), .val (.long (own_b q1)), .second, .val (.ref b2), .val (.int (own_x p2)), .val (.int (own_rz (own_b q1) (0 : Int64) (0 : Int32) (own_x p2))), .val (.int (own_e1 q1 p2)), .val (.long (own_h1 q1 p2)), .second, .val (.int (own_h q1 p2 p3)), .val (.int (own_x p4)), .val (.int (own_rz (own_b q1) (own_d1 q1 p2) (own_h q1 p2 p3) (own_x p4))), .unset, .unset, .unset, .unset, .unset, .unset, .unset, .unset, .unset, .unset] [(.long ((own_x p4).toInt64))])) _
    refine XS.iload X7.here hx rfl (hb hby at_105) rfl ?_
    show Steps p.tables e below (T7.setTop (mkF m 107 #[.val (.long q1), .second, .val (.int p2), .val (.int p3), .val (.int p4), .val (.long (own_b q1)), .second, .val (.ref b2), .val (.int (own_x p2)), .val (.int (own_rz (own_b q1) (0 : Int64) (0 : Int32) (own_x p2))), .val (.int (own_e1 q1 p2)), .val (.long (own_h1 q1 p2)), .second, .val (.int (own_h q1 p2 p3)), .val (.int (own_x p4)), .val (.int (own_rz (own_b q1) (own_d1 q1 p2) (own_h q1 p2 p3) (own_x p4))), .unset, .unset, .unset, .unset, .unset, .unset, .unset, .unset, .unset, .unset] [(.int (own_h q1 p2 p3)), (.long ((own_x p4).toInt64))])) _
    refine XS.i2l X7.here hx rfl (hb hby at_107) rfl ?_
    show Steps p.tables e below (T7.setTop (mkF m 108 #[.val (.long q1), .second, .val (.int p2), .val (.int p3), .val (.int p4), .val (.long (own_b q1)), .second, .val (.ref b2), .val (.int (own_x p2)), .val (.int (own_rz (own_b q1) (0 : Int64) (0 : Int32) (own_x p2))), .val (.int (own_e1 q1 p2)), .val (.long (own_h1 q1 p2)), .second, .val (.int (own_h q1 p2 p3)), .val (.int (own_x p4)), .val (.int (own_rz (own_b q1) (own_d1 q1 p2) (own_h q1 p2 p3) (own_x p4))), .unset, .unset, .unset, .unset, .unset, .unset, .unset, .unset, .unset, .unset] [(.long ((own_h q1 p2 p3).toInt64)), (.long ((own_x p4).toInt64))])) _
    refine XS.lsub X7.here hx rfl (hb hby at_108) rfl ?_
    show Steps p.tables e below (T7.setTop (mkF m 109 #[.val (.long q1), .second, .val (.int p2), .val (.int p3), .val (.int p4), .val (.long (own_b q1)), .second, .val (.ref b2), .val (.int (own_x p2)), .val (.int (own_rz (own_b q1) (0 : Int64) (0 : Int32) (own_x p2))), .val (.int (own_e1 q1 p2)), .val (.long (own_h1 q1 p2)), .second, .val (.int (own_h q1 p2 p3)), .val (.int (own_x p4)), .val (.int (own_rz (own_b q1) (own_d1 q1 p2) (own_h q1 p2 p3) (own_x p4))), .unset, .unset, .unset, .unset, .unset, .unset, .unset, .unset, .unset, .unset] [(.long (((own_x p4).toInt64) - ((own_h q1 p2 p3).toInt64)))])) _
    refine XS.lstore X7.here hx rfl (hb hby at_109) rfl (l' := #[.val (.long q1), .second, .val (.int p2), .val (.int p3), .val (.int p4), .val (.long (own_b q1)), .second, .val (.ref b2), .val (.int (own_x p2)), .val (.int (own_rz (own_b q1) (0 : Int64) (0 : Int32) (own_x p2))), .val (.int (own_e1 q1 p2)), .val (.long (own_h1 q1 p2)), .second, .val (.int (own_h q1 p2 p3)), .val (.int (own_x p4)), .val (.int (own_rz (own_b q1) (own_d1 q1 p2) (own_h q1 p2 p3) (own_x p4))), .val (.long (((own_x p4).toInt64) - ((own_h q1 p2 p3).toInt64))), .second, .unset, .unset, .unset, .unset, .unset, .unset, .unset, .unset]) rfl ?_
    show Steps p.tables e below (T7.setTop (mkF m 111 #[.val (.long q1), .second, .val (.int p2), .val (.int p3), .val (.int p4), .val (.long (own_b q1)), .second, .val (.ref b2), .val (.int (own_x p2)), .val (.int (own_rz (own_b q1) (0 : Int64) (0 : Int32) (own_x p2))), .val (.int (own_e1 q1 p2)), .val (.long (own_h1 q1 p2)), .second, .val (.int (own_h q1 p2 p3)), .val (.int (own_x p4)), .val (.int (own_rz (own_b q1) (own_d1 q1 p2) (own_h q1 p2 p3) (own_x p4))), .val (.long (own_more q1 p2 p3 p4)), .second, .unset, .unset, .unset, .unset, .unset, .unset, .unset, .unset] [])) _
    refine XS.lload X7.here hx rfl (hb hby at_111) rfl ?_
    show Steps p.tables e below (T7.setTop (mkF m 113 #[.val (.long q1), .second, .val (.int p2), .val (.int p3), .val (.int p4), .val (.long (own_b q1)), .second, .val (.ref b2), .val (.int (own_x p2)), .val (.int (own_rz (own_b q1) (0 : Int64) (0 : Int32) (own_x p2))), .val (.int (own_e1 q1 p2)), .val (.long (own_h1 q1 p2)), .second, .val (.int (own_h q1 p2 p3)), .val (.int (own_x p4)), .val (.int (own_rz (own_b q1) (own_d1 q1 p2) (own_h q1 p2 p3) (own_x p4))), .val (.long (own_more q1 p2 p3 p4)), .second, .unset, .unset, .unset, .unset, .unset, .unset, .unset, .unset] [(.long (own_h1 q1 p2))])) _
    refine XS.lload X7.here hx rfl (hb hby at_113) rfl ?_
    show Steps p.tables e below (T7.setTop (mkF m 115 #[.val (.long q1), .second, .val (.int p2), .val (.int p3), .val (.int p4), .val (.long (own_b q1)), .second, .val (.ref b2), .val (.int (own_x p2)), .val (.int (own_rz (own_b q1) (0 : Int64) (0 : Int32) (own_x p2))), .val (.int (own_e1 q1 p2)), .val (.long (own_h1 q1 p2)), .second, .val (.int (own_h q1 p2 p3)), .val (.int (own_x p4)), .val (.int (own_rz (own_b q1) (own_d1 q1 p2) (own_h q1 p2 p3) (own_x p4))), .val (.long (own_more q1 p2 p3 p4)), .second, .unset, .unset, .unset, .unset, .unset, .unset, .unset, .unset] [(.long (own_more q1 p2 p3 p4)), (.long (own_h1 q1 p2))])) _
    refine XS.ladd X7.here hx rfl (hb hby at_115) rfl ?_
    show Steps p.tables e below (T7.setTop (mkF m 116 #[.val (.long q1), .second, .val (.int p2), .val (.int p3), .val (.int p4), .val (.long (own_b q1)), .second, .val (.ref b2), .val (.int (own_x p2)), .val (.int (own_rz (own_b q1) (0 : Int64) (0 : Int32) (own_x p2))), .val (.int (own_e1 q1 p2)), .val (.long (own_h1 q1 p2)), .second, .val (.int (own_h q1 p2 p3)), .val (.int (own_x p4)), .val (.int (own_rz (own_b q1) (own_d1 q1 p2) (own_h q1 p2 p3) (own_x p4))), .val (.long (own_more q1 p2 p3 p4)), .second, .unset, .unset, .unset, .unset, .unset, .unset, .unset, .unset] [(.long ((own_h1 q1 p2) + (own_more q1 p2 p3 p4)))])) _
    refine XS.lload X7.here hx rfl (hb hby at_116) rfl ?_
    show Steps p.tables e below (T7.setTop (mkF m 118 #[.val (.long q1), .second, .val (.int p2), .val (.int p3), .val (.int p4), .val (.long (own_b q1)), .second, .val (.ref b2), .val (.int (own_x p2)), .val (.int (own_rz (own_b q1) (0 : Int64) (0 : Int32) (own_x p2))), .val (.int (own_e1 q1 p2)), .val (.long (own_h1 q1 p2)), .second, .val (.int (own_h q1 p2 p3)), .val (.int (own_x p4)), .val (.int (own_rz (own_b q1) (own_d1 q1 p2) (own_h q1 p2 p3) (own_x p4))), .val (.long (own_more q1 p2 p3 p4)), .second, .unset, .unset, .unset, .unset, .unset, .unset, .unset, .unset] [(.long (own_b q1)), (.long ((own_h1 q1 p2) + (own_more q1 p2 p3 p4)))])) _
    refine XS.lcmp X7.here hx rfl (hb hby at_118) rfl ?_
    show Steps p.tables e below (T7.setTop (mkF m 119 #[.val (.long q1), .second, .val (.int p2), .val (.int p3), .val (.int p4), .val (.long (own_b q1)), .second, .val (.ref b2), .val (.int (own_x p2)), .val (.int (own_rz (own_b q1) (0 : Int64) (0 : Int32) (own_x p2))), .val (.int (own_e1 q1 p2)), .val (.long (own_h1 q1 p2)), .second, .val (.int (own_h q1 p2 p3)), .val (.int (own_x p4)), .val (.int (own_rz (own_b q1) (own_d1 q1 p2) (own_h q1 p2 p3) (own_x p4))), .val (.long (own_more q1 p2 p3 p4)), .second, .unset, .unset, .unset, .unset, .unset, .unset, .unset, .unset] [(.int (lcmpW ((own_h1 q1 p2) + (own_more q1 p2 p3 p4)) (own_b q1)))])) _
    by_cases hc119 : (0 : Int32) < (lcmpW ((own_h1 q1 p2) + (own_more q1 p2 p3 p4)) (own_b q1))
    · rw [if_pos hc119] at k
      refine XS.ifYes X7.here hx rfl (pc0 := 119) (pc' := 126) rfl (hb hby at_119) rfl ((if0 _ _).trans (tlt hc119).2.2.1) (by decide) (by decide) ?_
      show Steps p.tables e below (T7.setTop (mkF m 126 #[.val (.long q1), .second, .val (.int p2), .val (.int p3), .val (.int p4), .val (.long (own_b q1)), .second, .val (.ref b2), .val (.int (own_x p2)), .val (.int (own_rz (own_b q1) (0 : Int64) (0 : Int32) (own_x p2))), .val (.int (own_e1 q1 p2)), .val (.long (own_h1 q1 p2)), .second, .val (.int (own_h q1 p2 p3)), .val (.int (own_x p4)), .val (.int (own_rz (own_b q1) (own_d1 q1 p2) (own_h q1 p2 p3) (own_x p4))), .val (.long (own_more q1 p2 p3 p4)), .second, .unset, .unset, .unset, .unset, .unset, .unset, .unset, .unset] [])) _
      refine XS.iconst X7.here hx rfl (hb hby at_126) ?_
      exact k
    · rw [if_neg hc119] at k
      refine XS.ifNo X7.here hx rfl (hb hby at_119) rfl ((if0 _ _).trans (flt hc119).2.2.1) ?_
      show Steps p.tables e below (T7.setTop (mkF m 122 #[.val (.long q1), .second, .val (.int p2), .val (.int p3), .val (.int p4), .val (.long (own_b q1)), .second, .val (.ref b2), .val (.int (own_x p2)), .val (.int (own_rz (own_b q1) (0 : Int64) (0 : Int32) (own_x p2))), .val (.int (own_e1 q1 p2)), .val (.long (own_h1 q1 p2)), .second, .val (.int (own_h q1 p2 p3)), .val (.int (own_x p4)), .val (.int (own_rz (own_b q1) (own_d1 q1 p2) (own_h q1 p2 p3) (own_x p4))), .val (.long (own_more q1 p2 p3 p4)), .second, .unset, .unset, .unset, .unset, .unset, .unset, .unset, .unset] [])) _
      refine XS.iconst X7.here hx rfl (hb hby at_122) ?_
      show Steps p.tables e below (T7.setTop (mkF m 123 #[.val (.long q1), .second, .val (.int p2), .val (.int p3), .val (.int p4), .val (.long (own_b q1)), .second, .val (.ref b2), .val (.int (own_x p2)), .val (.int (own_rz (own_b q1) (0 : Int64) (0 : Int32) (own_x p2))), .val (.int (own_e1 q1 p2)), .val (.long (own_h1 q1 p2)), .second, .val (.int (own_h q1 p2 p3)), .val (.int (own_x p4)), .val (.int (own_rz (own_b q1) (own_d1 q1 p2) (own_h q1 p2 p3) (own_x p4))), .val (.long (own_more q1 p2 p3 p4)), .second, .unset, .unset, .unset, .unset, .unset, .unset, .unset, .unset] [(.int (1 : Int32))])) _
      refine XS.goto X7.here hx rfl (pc0 := 123) (pc' := 127) rfl (hb hby at_123) (by decide) (by decide) ?_
      exact k
  have pre_9 : ∀ t, Steps p.tables e below (T7.setTop (mkF m 144 #[.val (.long q1), .second, .val (.int p2), .val (.int p3), .val (.int p4), .val (.long (own_b q1)), .second, .val (.ref b2), .val (.int (own_x p2)), .val (.int (own_rz (own_b q1) (0 : Int64) (0 : Int32) (own_x p2))), .val (.int (own_e1 q1 p2)), .val (.long (own_h1 q1 p2)), .second, .val (.int (own_h q1 p2 p3)), .val (.int (own_x p4)), .val (.int (own_rz (own_b q1) (own_d1 q1 p2) (own_h q1 p2 p3) (own_x p4))), .val (.long (own_more q1 p2 p3 p4)), .second, .val (.int (own_e2 q1 p2 p3 p4)), .unset, .unset, .unset, .unset, .unset, .unset, .unset] [(.long (if (own_e2 q1 p2 p3 p4) = (0 : Int32) then (own_h1 q1 p2) else ((own_h1 q1 p2) + (own_more q1 p2 p3 p4))))])) t → Steps p.tables e below (s₁.setTop (entryFrame m #[(.long q1), (.int p2), (.int p3), (.int p4)] maxLocals)) t := by
    intro t k
    refine pre_8 _ ?_
    show Steps p.tables e below (T7.setTop (mkF m 127 #[.val (.long q1), .second, .val (.int p2), .val (.int p3), .val (.int p4), .val (.long (own_b q1)), .second, .val (.ref b2), .val (.int (own_x p2)), .val (.int (own_rz (own_b q1) (0 : Int64) (0 : Int32) (own_x p2))), .val (.int (own_e1 q1 p2)), .val (.long (own_h1 q1 p2)), .second, .val (.int (own_h q1 p2 p3)), .val (.int (own_x p4)), .val (.int (own_rz (own_b q1) (own_d1 q1 p2) (own_h q1 p2 p3) (own_x p4))), .val (.long (own_more q1 p2 p3 p4)), .second, .unset, .unset, .unset, .unset, .unset, .unset, .unset, .unset] [(.int (own_e2 q1 p2 p3 p4))])) _
    refine XS.istore X7.here hx rfl (hb hby at_127) rfl (l' := #[.val (.long q1), .second, .val (.int p2), .val (.int p3), .val (.int p4), .val (.long (own_b q1)), .second, .val (.ref b2), .val (.int (own_x p2)), .val (.int (own_rz (own_b q1) (0 : Int64) (0 : Int32) (own_x p2))), .val (.int (own_e1 q1 p2)), .val (.long (own_h1 q1 p2)), .second, .val (.int (own_h q1 p2 p3)), .val (.int (own_x p4)), .val (.int (own_rz (own_b q1) (own_d1 q1 p2) (own_h q1 p2 p3) (own_x p4))), .val (.long (own_more q1 p2 p3 p4)), .second, .val (.int (own_e2 q1 p2 p3 p4)), .unset, .unset, .unset, .unset, .unset, .unset, .unset]) rfl ?_
    show Steps p.tables e below (T7.setTop (mkF m 129 #[.val (.long q1), .second, .val (.int p2), .val (.int p3), .val (.int p4), .val (.long (own_b q1)), .second, .val (.ref b2), .val (.int (own_x p2)), .val (.int (own_rz (own_b q1) (0 : Int64) (0 : Int32) (own_x p2))), .val (.int (own_e1 q1 p2)), .val (.long (own_h1 q1 p2)), .second, .val (.int (own_h q1 p2 p3)), .val (.int (own_x p4)), .val (.int (own_rz (own_b q1) (own_d1 q1 p2) (own_h q1 p2 p3) (own_x p4))), .val (.long (own_more q1 p2 p3 p4)), .second, .val (.int (own_e2 q1 p2 p3 p4)), .unset, .unset, .unset, .unset, .unset, .unset, .unset] [])) _
    refine XS.iload X7.here hx rfl (hb hby at_129) rfl ?_
    show Steps p.tables e below (T7.setTop (mkF m 131 #[.val (.long q1), .second, .val (.int p2), .val (.int p3), .val (.int p4), .val (.long (own_b q1)), .second, .val (.ref b2), .val (.int (own_x p2)), .val (.int (own_rz (own_b q1) (0 : Int64) (0 : Int32) (own_x p2))), .val (.int (own_e1 q1 p2)), .val (.long (own_h1 q1 p2)), .second, .val (.int (own_h q1 p2 p3)), .val (.int (own_x p4)), .val (.int (own_rz (own_b q1) (own_d1 q1 p2) (own_h q1 p2 p3) (own_x p4))), .val (.long (own_more q1 p2 p3 p4)), .second, .val (.int (own_e2 q1 p2 p3 p4)), .unset, .unset, .unset, .unset, .unset, .unset, .unset] [(.int (own_e2 q1 p2 p3 p4))])) _
    by_cases hc131 : (own_e2 q1 p2 p3 p4) = (0 : Int32)
    · rw [if_pos hc131] at k
      refine XS.ifYes X7.here hx rfl (pc0 := 131) (pc' := 142) rfl (hb hby at_131) rfl ((if0 _ _).trans (teq hc131).1) (by decide) (by decide) ?_
      show Steps p.tables e below (T7.setTop (mkF m 142 #[.val (.long q1), .second, .val (.int p2), .val (.int p3), .val (.int p4), .val (.long (own_b q1)), .second, .val (.ref b2), .val (.int (own_x p2)), .val (.int (own_rz (own_b q1) (0 : Int64) (0 : Int32) (own_x p2))), .val (.int (own_e1 q1 p2)), .val (.long (own_h1 q1 p2)), .second, .val (.int (own_h q1 p2 p3)), .val (.int (own_x p4)), .val (.int (own_rz (own_b q1) (own_d1 q1 p2) (own_h q1 p2 p3) (own_x p4))), .val (.long (own_more q1 p2 p3 p4)), .second, .val (.int (own_e2 q1 p2 p3 p4)), .unset, .unset, .unset, .unset, .unset, .unset, .unset] [])) _
      refine XS.lload X7.here hx rfl (hb hby at_142) rfl ?_
      exact k
    · rw [if_neg hc131] at k
      refine XS.ifNo X7.here hx rfl (hb hby at_131) rfl ((if0 _ _).trans (feq hc131).1) ?_
      show Steps p.tables e below (T7.setTop (mkF m 134 #[.val (.long q1), .second, .val (.int p2), .val (.int p3), .val (.int p4), .val (.long (own_b q1)), .second, .val (.ref b2), .val (.int (own_x p2)), .val (.int (own_rz (own_b q1) (0 : Int64) (0 : Int32) (own_x p2))), .val (.int (own_e1 q1 p2)), .val (.long (own_h1 q1 p2)), .second, .val (.int (own_h q1 p2 p3)), .val (.int (own_x p4)), .val (.int (own_rz (own_b q1) (own_d1 q1 p2) (own_h q1 p2 p3) (own_x p4))), .val (.long (own_more q1 p2 p3 p4)), .second, .val (.int (own_e2 q1 p2 p3 p4)), .unset, .unset, .unset, .unset, .unset, .unset, .unset] [])) _
      refine XS.lload X7.here hx rfl (hb hby at_134) rfl ?_
      show Steps p.tables e below (T7.setTop (mkF m 136 #[.val (.long q1), .second, .val (.int p2), .val (.int p3), .val (.int p4), .val (.long (own_b q1)), .second, .val (.ref b2), .val (.int (own_x p2)), .val (.int (own_rz (own_b q1) (0 : Int64) (0 : Int32) (own_x p2))), .val (.int (own_e1 q1 p2)), .val (.long (own_h1 q1 p2)), .second, .val (.int (own_h q1 p2 p3)), .val (.int (own_x p4)), .val (.int (own_rz (own_b q1) (own_d1 q1 p2) (own_h q1 p2 p3) (own_x p4))), .val (.long (own_more q1 p2 p3 p4)), .second, .val (.int (own_e2 q1 p2 p3 p4)), .unset, .unset, .unset, .unset, .unset, .unset, .unset] [(.long (own_h1 q1 p2))])) _
      refine XS.lload X7.here hx rfl (hb hby at_136) rfl ?_
      show Steps p.tables e below (T7.setTop (mkF m 138 #[.val (.long q1), .second, .val (.int p2), .val (.int p3), .val (.int p4), .val (.long (own_b q1)), .second, .val (.ref b2), .val (.int (own_x p2)), .val (.int (own_rz (own_b q1) (0 : Int64) (0 : Int32) (own_x p2))), .val (.int (own_e1 q1 p2)), .val (.long (own_h1 q1 p2)), .second, .val (.int (own_h q1 p2 p3)), .val (.int (own_x p4)), .val (.int (own_rz (own_b q1) (own_d1 q1 p2) (own_h q1 p2 p3) (own_x p4))), .val (.long (own_more q1 p2 p3 p4)), .second, .val (.int (own_e2 q1 p2 p3 p4)), .unset, .unset, .unset, .unset, .unset, .unset, .unset] [(.long (own_more q1 p2 p3 p4)), (.long (own_h1 q1 p2))])) _
      refine XS.ladd X7.here hx rfl (hb hby at_138) rfl ?_
      show Steps p.tables e below (T7.setTop (mkF m 139 #[.val (.long q1), .second, .val (.int p2), .val (.int p3), .val (.int p4), .val (.long (own_b q1)), .second, .val (.ref b2), .val (.int (own_x p2)), .val (.int (own_rz (own_b q1) (0 : Int64) (0 : Int32) (own_x p2))), .val (.int (own_e1 q1 p2)), .val (.long (own_h1 q1 p2)), .second, .val (.int (own_h q1 p2 p3)), .val (.int (own_x p4)), .val (.int (own_rz (own_b q1) (own_d1 q1 p2) (own_h q1 p2 p3) (own_x p4))), .val (.long (own_more q1 p2 p3 p4)), .second, .val (.int (own_e2 q1 p2 p3 p4)), .unset, .unset, .unset, .unset, .unset, .unset, .unset] [(.long ((own_h1 q1 p2) + (own_more q1 p2 p3 p4)))])) _
      refine XS.goto X7.here hx rfl (pc0 := 139) (pc' := 144) rfl (hb hby at_139) (by decide) (by decide) ?_
      exact k
  obtain ⟨cq10, kq10, q10a, q10b, q10c⟩ := isOf hZ rfl fk7_0
  obtain ⟨_, _, ⟨T10, L10, k10, n10⟩, -, X10, ⟨Lc10, hQ10, l10, y10, z10⟩, st10⟩ := X7.virtualBack hx (y := (⟨"com/example/mountwright/mountwright/server/RequestBudget", "admitsArriving", "()Z"⟩ : MethodName)) (z := (⟨"com/example/mountwright/mountwright/server/RequestBudget", "admitsArriving", "()Z"⟩ : MethodName)) hown (mvT hZ (hw _ (List.mem_of_getElem? (i := 31) rfl))) (mvT hZ (hw _ (List.mem_of_getElem? (i := 32) rfl))) (notFace_of_selects (args := #[]) (mvT hZ (hw _ (List.mem_of_getElem? (i := 34) rfl)))) (mvT hZ (hw _ (List.mem_of_getElem? (i := 34) rfl))) (mvT hZ (hw _ (List.mem_of_getElem? (i := 33) rfl))) (by decide) (backOf (W := 0) (rm_ad l Z a0 hw [] b2 (own_b q1) (own_d2 q1 p2 p3 p4) (own_sh (own_b q1)) T7.heap n0 Z7 fk7_1 fk7_2 fk7_3 fk7_0 f3) hZ (hw _ (List.mem_of_getElem? (i := 35) rfl)) (hw _ (List.mem_of_getElem? (i := 8) rfl)) (by decide) (by decide)) q10a q10c (g := (mkF m 148 #[.val (.long q1), .second, .val (.int p2), .val (.int p3), .val (.int p4), .val (.long (own_b q1)), .second, .val (.ref b2), .val (.int (own_x p2)), .val (.int (own_rz (own_b q1) (0 : Int64) (0 : Int32) (own_x p2))), .val (.int (own_e1 q1 p2)), .val (.long (own_h1 q1 p2)), .second, .val (.int (own_h q1 p2 p3)), .val (.int (own_x p4)), .val (.int (own_rz (own_b q1) (own_d1 q1 p2) (own_h q1 p2 p3) (own_x p4))), .val (.long (own_more q1 p2 p3 p4)), .second, .val (.int (own_e2 q1 p2 p3 p4)), .val (.long (own_h2 q1 p2 p3 p4)), .second, .unset, .unset, .unset, .unset, .unset] [(.ref b2)])) rfl (by rw [hml]; rfl) (Steps.refl _) (argsL := []) (rest := []) (lenOf pd___Z_171 rfl) rfl (by show 2 * 0 + _ ≤ _; exact Nat.le_of_eq rfl) (hb hby at_148) (fun _ _ => ⟨rfl, rfl, (by decide : 1 + 0 ≤ _), (by decide : 3 + 0 ≤ _)⟩)
  dsimp only [Pt.U, Pt.locs, Pt.cells, Pt.slots] at X10 l10 y10 z10 st10 hQ10
  subst l10 y10 z10
  obtain ⟨rfl, N10q, e10⟩ := hQ10
  have N10 := Fr.app N7 N10q
  have pre_11 : ∀ t, Steps p.tables e below (T10.setTop (mkF m 173 #[.val (.long q1), .second, .val (.int p2), .val (.int p3), .val (.int p4), .val (.long (own_b q1)), .second, .val (.ref b2), .val (.int (own_x p2)), .val (.int (own_rz (own_b q1) (0 : Int64) (0 : Int32) (own_x p2))), .val (.int (own_e1 q1 p2)), .val (.long (own_h1 q1 p2)), .second, .val (.int (own_h q1 p2 p3)), .val (.int (own_x p4)), .val (.int (own_rz (own_b q1) (own_d1 q1 p2) (own_h q1 p2 p3) (own_x p4))), .val (.long (own_more q1 p2 p3 p4)), .second, .val (.int (own_e2 q1 p2 p3 p4)), .val (.long (own_h2 q1 p2 p3 p4)), .second, .val (.int (own_e (own_d2 q1 p2 p3 p4) (own_sh (own_b q1)))), .unset, .unset, .unset, .unset] [(.int (if (0 : Int32) < (lcmpW (own_h2 q1 p2 p3 p4) ((own_b q1) - ((own_b q1) / (4 : Int64)))) then (0 : Int32) else (1 : Int32)))])) t → Steps p.tables e below (s₁.setTop (entryFrame m #[(.long q1), (.int p2), (.int p3), (.int p4)] maxLocals)) t := by
    intro t k
    refine pre_9 _ ?_
    show Steps p.tables e below (T7.setTop (mkF m 144 #[.val (.long q1), .second, .val (.int p2), .val (.int p3), .val (.int p4), .val (.long (own_b q1)), .second, .val (.ref b2), .val (.int (own_x p2)), .val (.int (own_rz (own_b q1) (0 : Int64) (0 : Int32) (own_x p2))), .val (.int (own_e1 q1 p2)), .val (.long (own_h1 q1 p2)), .second, .val (.int (own_h q1 p2 p3)), .val (.int (own_x p4)), .val (.int (own_rz (own_b q1) (own_d1 q1 p2) (own_h q1 p2 p3) (own_x p4))), .val (.long (own_more q1 p2 p3 p4)), .second, .val (.int (own_e2 q1 p2 p3 p4)), .unset, .unset, .unset, .unset, .unset, .unset, .unset] [(.long (own_h2 q1 p2 p3 p4))])) _
    refine XS.lstore X7.here hx rfl (hb hby at_144) rfl (l' := #[.val (.long q1), .second, .val (.int p2), .val (.int p3), .val (.int p4), .val (.long (own_b q1)), .second, .val (.ref b2), .val (.int (own_x p2)), .val (.int (own_rz (own_b q1) (0 : Int64) (0 : Int32) (own_x p2))), .val (.int (own_e1 q1 p2)), .val (.long (own_h1 q1 p2)), .second, .val (.int (own_h q1 p2 p3)), .val (.int (own_x p4)), .val (.int (own_rz (own_b q1) (own_d1 q1 p2) (own_h q1 p2 p3) (own_x p4))), .val (.long (own_more q1 p2 p3 p4)), .second, .val (.int (own_e2 q1 p2 p3 p4)), .val (.long (own_h2 q1 p2 p3 p4)), .second, .unset, .unset, .unset, .unset, .unset]) rfl ?_
    show Steps p.tables e below (T7.setTop (mkF m 146 #[.val (.long q1), .second, .val (.int p2), .val (.int p3), .val (.int p4), .val (.long (own_b q1)), .second, .val (.ref b2), .val (.int (own_x p2)), .val (.int (own_rz (own_b q1) (0 : Int64) (0 : Int32) (own_x p2))), .val (.int (own_e1 q1 p2)), .val (.long (own_h1 q1 p2)), .second, .val (.int (own_h q1 p2 p3)), .val (.int (own_x p4)), .val (.int (own_rz (own_b q1) (own_d1 q1 p2) (own_h q1 p2 p3) (own_x p4))), .val (.long (own_more q1 p2 p3 p4)), .second, .val (.int (own_e2 q1 p2 p3 p4)), .val (.long (own_h2 q1 p2 p3 p4)), .second, .unset, .unset, .unset, .unset, .unset] [])) _
    refine XS.aload X7.here hx rfl (hb hby at_146) rfl rfl ?_
    show Steps p.tables e below (T7.setTop (mkF m 148 #[.val (.long q1), .second, .val (.int p2), .val (.int p3), .val (.int p4), .val (.long (own_b q1)), .second, .val (.ref b2), .val (.int (own_x p2)), .val (.int (own_rz (own_b q1) (0 : Int64) (0 : Int32) (own_x p2))), .val (.int (own_e1 q1 p2)), .val (.long (own_h1 q1 p2)), .second, .val (.int (own_h q1 p2 p3)), .val (.int (own_x p4)), .val (.int (own_rz (own_b q1) (own_d1 q1 p2) (own_h q1 p2 p3) (own_x p4))), .val (.long (own_more q1 p2 p3 p4)), .second, .val (.int (own_e2 q1 p2 p3 p4)), .val (.long (own_h2 q1 p2 p3 p4)), .second, .unset, .unset, .unset, .unset, .unset] [(.ref b2)])) _
    refine st10.trans ?_
    show Steps p.tables e below (T10.setTop (mkF m 151 #[.val (.long q1), .second, .val (.int p2), .val (.int p3), .val (.int p4), .val (.long (own_b q1)), .second, .val (.ref b2), .val (.int (own_x p2)), .val (.int (own_rz (own_b q1) (0 : Int64) (0 : Int32) (own_x p2))), .val (.int (own_e1 q1 p2)), .val (.long (own_h1 q1 p2)), .second, .val (.int (own_h q1 p2 p3)), .val (.int (own_x p4)), .val (.int (own_rz (own_b q1) (own_d1 q1 p2) (own_h q1 p2 p3) (own_x p4))), .val (.long (own_more q1 p2 p3 p4)), .second, .val (.int (own_e2 q1 p2 p3 p4)), .val (.long (own_h2 q1 p2 p3 p4)), .second, .unset, .unset, .unset, .unset, .unset] [(.int (own_e (own_d2 q1 p2 p3 p4) (own_sh (own_b q1))))])) _
    refine XS.istore X10.here hx rfl (hb hby at_151) rfl (l' := #[.val (.long q1), .second, .val (.int p2), .val (.int p3), .val (.int p4), .val (.long (own_b q1)), .second, .val (.ref b2), .val (.int (own_x p2)), .val (.int (own_rz (own_b q1) (0 : Int64) (0 : Int32) (own_x p2))), .val (.int (own_e1 q1 p2)), .val (.long (own_h1 q1 p2)), .second, .val (.int (own_h q1 p2 p3)), .val (.int (own_x p4)), .val (.int (own_rz (own_b q1) (own_d1 q1 p2) (own_h q1 p2 p3) (own_x p4))), .val (.long (own_more q1 p2 p3 p4)), .second, .val (.int (own_e2 q1 p2 p3 p4)), .val (.long (own_h2 q1 p2 p3 p4)), .second, .val (.int (own_e (own_d2 q1 p2 p3 p4) (own_sh (own_b q1)))), .unset, .unset, .unset, .unset]) rfl ?_
    show Steps p.tables e below (T10.setTop (mkF m 153 #[.val (.long q1), .second, .val (.int p2), .val (.int p3), .val (.int p4), .val (.long (own_b q1)), .second, .val (.ref b2), .val (.int (own_x p2)), .val (.int (own_rz (own_b q1) (0 : Int64) (0 : Int32) (own_x p2))), .val (.int (own_e1 q1 p2)), .val (.long (own_h1 q1 p2)), .second, .val (.int (own_h q1 p2 p3)), .val (.int (own_x p4)), .val (.int (own_rz (own_b q1) (own_d1 q1 p2) (own_h q1 p2 p3) (own_x p4))), .val (.long (own_more q1 p2 p3 p4)), .second, .val (.int (own_e2 q1 p2 p3 p4)), .val (.long (own_h2 q1 p2 p3 p4)), .second, .val (.int (own_e (own_d2 q1 p2 p3 p4) (own_sh (own_b q1)))), .unset, .unset, .unset, .unset] [])) _
    refine XS.lload X10.here hx rfl (hb hby at_153) rfl ?_
    show Steps p.tables e below (T10.setTop (mkF m 155 #[.val (.long q1), .second, .val (.int p2), .val (.int p3), .val (.int p4), .val (.long (own_b q1)), .second, .val (.ref b2), .val (.int (own_x p2)), .val (.int (own_rz (own_b q1) (0 : Int64) (0 : Int32) (own_x p2))), .val (.int (own_e1 q1 p2)), .val (.long (own_h1 q1 p2)), .second, .val (.int (own_h q1 p2 p3)), .val (.int (own_x p4)), .val (.int (own_rz (own_b q1) (own_d1 q1 p2) (own_h q1 p2 p3) (own_x p4))), .val (.long (own_more q1 p2 p3 p4)), .second, .val (.int (own_e2 q1 p2 p3 p4)), .val (.long (own_h2 q1 p2 p3 p4)), .second, .val (.int (own_e (own_d2 q1 p2 p3 p4) (own_sh (own_b q1)))), .unset, .unset, .unset, .unset] [(.long (own_h2 q1 p2 p3 p4))])) _
    refine XS.lload X10.here hx rfl (hb hby at_155) rfl ?_
    show Steps p.tables e below (T10.setTop (mkF m 157 #[.val (.long q1), .second, .val (.int p2), .val (.int p3), .val (.int p4), .val (.long (own_b q1)), .second, .val (.ref b2), .val (.int (own_x p2)), .val (.int (own_rz (own_b q1) (0 : Int64) (0 : Int32) (own_x p2))), .val (.int (own_e1 q1 p2)), .val (.long (own_h1 q1 p2)), .second, .val (.int (own_h q1 p2 p3)), .val (.int (own_x p4)), .val (.int (own_rz (own_b q1) (own_d1 q1 p2) (own_h q1 p2 p3) (own_x p4))), .val (.long (own_more q1 p2 p3 p4)), .second, .val (.int (own_e2 q1 p2 p3 p4)), .val (.long (own_h2 q1 p2 p3 p4)), .second, .val (.int (own_e (own_d2 q1 p2 p3 p4) (own_sh (own_b q1)))), .unset, .unset, .unset, .unset] [(.long (own_b q1)), (.long (own_h2 q1 p2 p3 p4))])) _
    refine XS.lload X10.here hx rfl (hb hby at_157) rfl ?_
    show Steps p.tables e below (T10.setTop (mkF m 159 #[.val (.long q1), .second, .val (.int p2), .val (.int p3), .val (.int p4), .val (.long (own_b q1)), .second, .val (.ref b2), .val (.int (own_x p2)), .val (.int (own_rz (own_b q1) (0 : Int64) (0 : Int32) (own_x p2))), .val (.int (own_e1 q1 p2)), .val (.long (own_h1 q1 p2)), .second, .val (.int (own_h q1 p2 p3)), .val (.int (own_x p4)), .val (.int (own_rz (own_b q1) (own_d1 q1 p2) (own_h q1 p2 p3) (own_x p4))), .val (.long (own_more q1 p2 p3 p4)), .second, .val (.int (own_e2 q1 p2 p3 p4)), .val (.long (own_h2 q1 p2 p3 p4)), .second, .val (.int (own_e (own_d2 q1 p2 p3 p4) (own_sh (own_b q1)))), .unset, .unset, .unset, .unset] [(.long (own_b q1)), (.long (own_b q1)), (.long (own_h2 q1 p2 p3 p4))])) _
    refine X10.ldc2Long hx hown (mvT hZ (hw _ (List.mem_of_getElem? (i := 36) rfl))) (g := (mkF m 159 #[.val (.long q1), .second, .val (.int p2), .val (.int p3), .val (.int p4), .val (.long (own_b q1)), .second, .val (.ref b2), .val (.int (own_x p2)), .val (.int (own_rz (own_b q1) (0 : Int64) (0 : Int32) (own_x p2))), .val (.int (own_e1 q1 p2)), .val (.long (own_h1 q1 p2)), .second, .val (.int (own_h q1 p2 p3)), .val (.int (own_x p4)), .val (.int (own_rz (own_b q1) (own_d1 q1 p2) (own_h q1 p2 p3) (own_x p4))), .val (.long (own_more q1 p2 p3 p4)), .second, .val (.int (own_e2 q1 p2 p3 p4)), .val (.long (own_h2 q1 p2 p3 p4)), .second, .val (.int (own_e (own_d2 q1 p2 p3 p4) (own_sh (own_b q1)))), .unset, .unset, .unset, .unset] [(.long (own_b q1)), (.long (own_b q1)), (.long (own_h2 q1 p2 p3 p4))])) rfl (hb hby at_159) _ ?_
    show Steps p.tables e below (T10.setTop (mkF m 162 #[.val (.long q1), .second, .val (.int p2), .val (.int p3), .val (.int p4), .val (.long (own_b q1)), .second, .val (.ref b2), .val (.int (own_x p2)), .val (.int (own_rz (own_b q1) (0 : Int64) (0 : Int32) (own_x p2))), .val (.int (own_e1 q1 p2)), .val (.long (own_h1 q1 p2)), .second, .val (.int (own_h q1 p2 p3)), .val (.int (own_x p4)), .val (.int (own_rz (own_b q1) (own_d1 q1 p2) (own_h q1 p2 p3) (own_x p4))), .val (.long (own_more q1 p2 p3 p4)), .second, .val (.int (own_e2 q1 p2 p3 p4)), .val (.long (own_h2 q1 p2 p3 p4)), .second, .val (.int (own_e (own_d2 q1 p2 p3 p4) (own_sh (own_b q1)))), .unset, .unset, .unset, .unset] [(.long (4 : Int64)), (.long (own_b q1)), (.long (own_b q1)), (.long (own_h2 q1 p2 p3 p4))])) _
    refine XS.ldiv X10.here hx rfl (hb hby at_162) rfl (by decide) ?_
    show Steps p.tables e below (T10.setTop (mkF m 163 #[.val (.long q1), .second, .val (.int p2), .val (.int p3), .val (.int p4), .val (.long (own_b q1)), .second, .val (.ref b2), .val (.int (own_x p2)), .val (.int (own_rz (own_b q1) (0 : Int64) (0 : Int32) (own_x p2))), .val (.int (own_e1 q1 p2)), .val (.long (own_h1 q1 p2)), .second, .val (.int (own_h q1 p2 p3)), .val (.int (own_x p4)), .val (.int (own_rz (own_b q1) (own_d1 q1 p2) (own_h q1 p2 p3) (own_x p4))), .val (.long (own_more q1 p2 p3 p4)), .second, .val (.int (own_e2 q1 p2 p3 p4)), .val (.long (own_h2 q1 p2 p3 p4)), .second, .val (.int (own_e (own_d2 q1 p2 p3 p4) (own_sh (own_b q1)))), .unset, .unset, .unset, .unset] [(.long ((own_b q1) / (4 : Int64))), (.long (own_b q1)), (.long (own_h2 q1 p2 p3 p4))])) _
    refine XS.lsub X10.here hx rfl (hb hby at_163) rfl ?_
    show Steps p.tables e below (T10.setTop (mkF m 164 #[.val (.long q1), .second, .val (.int p2), .val (.int p3), .val (.int p4), .val (.long (own_b q1)), .second, .val (.ref b2), .val (.int (own_x p2)), .val (.int (own_rz (own_b q1) (0 : Int64) (0 : Int32) (own_x p2))), .val (.int (own_e1 q1 p2)), .val (.long (own_h1 q1 p2)), .second, .val (.int (own_h q1 p2 p3)), .val (.int (own_x p4)), .val (.int (own_rz (own_b q1) (own_d1 q1 p2) (own_h q1 p2 p3) (own_x p4))), .val (.long (own_more q1 p2 p3 p4)), .second, .val (.int (own_e2 q1 p2 p3 p4)), .val (.long (own_h2 q1 p2 p3 p4)), .second, .val (.int (own_e (own_d2 q1 p2 p3 p4) (own_sh (own_b q1)))), .unset, .unset, .unset, .unset] [(.long ((own_b q1) - ((own_b q1) / (4 : Int64)))), (.long (own_h2 q1 p2 p3 p4))])) _
    refine XS.lcmp X10.here hx rfl (hb hby at_164) rfl ?_
    show Steps p.tables e below (T10.setTop (mkF m 165 #[.val (.long q1), .second, .val (.int p2), .val (.int p3), .val (.int p4), .val (.long (own_b q1)), .second, .val (.ref b2), .val (.int (own_x p2)), .val (.int (own_rz (own_b q1) (0 : Int64) (0 : Int32) (own_x p2))), .val (.int (own_e1 q1 p2)), .val (.long (own_h1 q1 p2)), .second, .val (.int (own_h q1 p2 p3)), .val (.int (own_x p4)), .val (.int (own_rz (own_b q1) (own_d1 q1 p2) (own_h q1 p2 p3) (own_x p4))), .val (.long (own_more q1 p2 p3 p4)), .second, .val (.int (own_e2 q1 p2 p3 p4)), .val (.long (own_h2 q1 p2 p3 p4)), .second, .val (.int (own_e (own_d2 q1 p2 p3 p4) (own_sh (own_b q1)))), .unset, .unset, .unset, .unset] [(.int (lcmpW (own_h2 q1 p2 p3 p4) ((own_b q1) - ((own_b q1) / (4 : Int64)))))])) _
    by_cases hc165 : (0 : Int32) < (lcmpW (own_h2 q1 p2 p3 p4) ((own_b q1) - ((own_b q1) / (4 : Int64))))
    · rw [if_pos hc165] at k
      refine XS.ifYes X10.here hx rfl (pc0 := 165) (pc' := 172) rfl (hb hby at_165) rfl ((if0 _ _).trans (tlt hc165).2.2.1) (by decide) (by decide) ?_
      show Steps p.tables e below (T10.setTop (mkF m 172 #[.val (.long q1), .second, .val (.int p2), .val (.int p3), .val (.int p4), .val (.long (own_b q1)), .second, .val (.ref b2), .val (.int (own_x p2)), .val (.int (own_rz (own_b q1) (0 : Int64) (0 : Int32) (own_x p2))), .val (.int (own_e1 q1 p2)), .val (.long (own_h1 q1 p2)), .second, .val (.int (own_h q1 p2 p3)), .val (.int (own_x p4)), .val (.int (own_rz (own_b q1) (own_d1 q1 p2) (own_h q1 p2 p3) (own_x p4))), .val (.long (own_more q1 p2 p3 p4)), .second, .val (.int (own_e2 q1 p2 p3 p4)), .val (.long (own_h2 q1 p2 p3 p4)), .second, .val (.int (own_e (own_d2 q1 p2 p3 p4) (own_sh (own_b q1)))), .unset, .unset, .unset, .unset] [])) _
      refine XS.iconst X10.here hx rfl (hb hby at_172) ?_
      exact k
    · rw [if_neg hc165] at k
      refine XS.ifNo X10.here hx rfl (hb hby at_165) rfl ((if0 _ _).trans (flt hc165).2.2.1) ?_
      show Steps p.tables e below (T10.setTop (mkF m 168 #[.val (.long q1), .second, .val (.int p2), .val (.int p3), .val (.int p4), .val (.long (own_b q1)), .second, .val (.ref b2), .val (.int (own_x p2)), .val (.int (own_rz (own_b q1) (0 : Int64) (0 : Int32) (own_x p2))), .val (.int (own_e1 q1 p2)), .val (.long (own_h1 q1 p2)), .second, .val (.int (own_h q1 p2 p3)), .val (.int (own_x p4)), .val (.int (own_rz (own_b q1) (own_d1 q1 p2) (own_h q1 p2 p3) (own_x p4))), .val (.long (own_more q1 p2 p3 p4)), .second, .val (.int (own_e2 q1 p2 p3 p4)), .val (.long (own_h2 q1 p2 p3 p4)), .second, .val (.int (own_e (own_d2 q1 p2 p3 p4) (own_sh (own_b q1)))), .unset, .unset, .unset, .unset] [])) _
      refine XS.iconst X10.here hx rfl (hb hby at_168) ?_
      show Steps p.tables e below (T10.setTop (mkF m 169 #[.val (.long q1), .second, .val (.int p2), .val (.int p3), .val (.int p4), .val (.long (own_b q1)), .second, .val (.ref b2), .val (.int (own_x p2)), .val (.int (own_rz (own_b q1) (0 : Int64) (0 : Int32) (own_x p2))), .val (.int (own_e1 q1 p2)), .val (.long (own_h1 q1 p2)), .second, .val (.int (own_h q1 p2 p3)), .val (.int (own_x p4)), .val (.int (own_rz (own_b q1) (own_d1 q1 p2) (own_h q1 p2 p3) (own_x p4))), .val (.long (own_more q1 p2 p3 p4)), .second, .val (.int (own_e2 q1 p2 p3 p4)), .val (.long (own_h2 q1 p2 p3 p4)), .second, .val (.int (own_e (own_d2 q1 p2 p3 p4) (own_sh (own_b q1)))), .unset, .unset, .unset, .unset] [(.int (1 : Int32))])) _
      refine XS.goto X10.here hx rfl (pc0 := 169) (pc' := 173) rfl (hb hby at_169) (by decide) (by decide) ?_
      exact k
  obtain ⟨cq12, kq12, q12a, q12b, q12c⟩ := isOf hZ e10 fk7_0
  obtain ⟨_, _, ⟨T12, L12, k12, n12⟩, -, X12, ⟨Lc12, hQ12, l12, y12, z12⟩, st12⟩ := X10.virtualBack hx (y := (⟨"com/example/mountwright/mountwright/server/RequestBudget", "resize", "(II)Z"⟩ : MethodName)) (z := (⟨"com/example/mountwright/mountwright/server/RequestBudget", "resize", "(II)Z"⟩ : MethodName)) hown (mvT hZ (hw _ (List.mem_of_getElem? (i := 24) rfl))) (mvT hZ (hw _ (List.mem_of_getElem? (i := 25) rfl))) (notFace_of_selects (args := #[]) (mvT hZ (hw _ (List.mem_of_getElem? (i := 27) rfl)))) (mvT hZ (hw _ (List.mem_of_getElem? (i := 27) rfl))) (mvT hZ (hw _ (List.mem_of_getElem? (i := 26) rfl))) (by decide) (backOf (W := 0) (rm_rz l Z a0 hw [] b2 (0 : Int32) ((own_k q1 p2 p3 p4) + (1 : Int32)) (own_b q1) (own_d2 q1 p2 p3 p4) (own_sh (own_b q1)) T7.heap n0 Z7 fk7_1 fk7_2 fk7_3 fk7_0 f3) hZ (hw _ (List.mem_of_getElem? (i := 28) rfl)) (hw _ (List.mem_of_getElem? (i := 8) rfl)) (by decide) (by decide)) q12a q12c (g := (mkF m 190 #[.val (.long q1), .second, .val (.int p2), .val (.int p3), .val (.int p4), .val (.long (own_b q1)), .second, .val (.ref b2), .val (.int (own_x p2)), .val (.int (own_rz (own_b q1) (0 : Int64) (0 : Int32) (own_x p2))), .val (.int (own_e1 q1 p2)), .val (.long (own_h1 q1 p2)), .second, .val (.int (own_h q1 p2 p3)), .val (.int (own_x p4)), .val (.int (own_rz (own_b q1) (own_d1 q1 p2) (own_h q1 p2 p3) (own_x p4))), .val (.long (own_more q1 p2 p3 p4)), .second, .val (.int (own_e2 q1 p2 p3 p4)), .val (.long (own_h2 q1 p2 p3 p4)), .second, .val (.int (own_e (own_d2 q1 p2 p3 p4) (own_sh (own_b q1)))), .val (.int (own_e (own_h2 q1 p2 p3 p4) (own_b q1 - own_b q1 / (4 : Int64)))), .val (.int (own_k q1 p2 p3 p4)), .unset, .unset] [(.int ((own_k q1 p2 p3 p4) + (1 : Int32))), (.int (0 : Int32)), (.ref b2)])) rfl (by rw [hml]; rfl) (Steps.refl _) (argsL := [(.int (0 : Int32)), (.int ((own_k q1 p2 p3 p4) + (1 : Int32)))]) (rest := []) (lenOf pd__II_Z_317 rfl) rfl (by show 2 * 0 + _ ≤ _; exact Nat.le_of_eq rfl) (hb hby at_190) (fun _ _ => ⟨rfl, e10, (by decide : 1 + 0 ≤ _), (by decide : 3 + 0 ≤ _)⟩)
  dsimp only [Pt.U, Pt.locs, Pt.cells, Pt.slots] at X12 l12 y12 z12 st12 hQ12
  subst l12 y12 z12
  obtain ⟨rfl, N12q, K12, fk12_0, fk12_1, fk12_2, fk12_3⟩ := hQ12
  have f4 : n0 ≤ b2 := f3
  have Z12 : n0 ≤ T12.heap.size := Nat.le_trans Z7 K12.1
  have N12 := Fr.app N10 N12q
  obtain ⟨cq13, kq13, q13a, q13b, q13c⟩ := isOf hZ rfl fk12_0
  obtain ⟨_, _, ⟨T13, L13, k13, n13⟩, -, X13, ⟨Lc13, hQ13, l13, y13, z13⟩, st13⟩ := X12.virtualBack hx (y := (⟨"com/example/mountwright/mountwright/server/RequestBudget", "resize", "(II)Z"⟩ : MethodName)) (z := (⟨"com/example/mountwright/mountwright/server/RequestBudget", "resize", "(II)Z"⟩ : MethodName)) hown (mvT hZ (hw _ (List.mem_of_getElem? (i := 24) rfl))) (mvT hZ (hw _ (List.mem_of_getElem? (i := 25) rfl))) (notFace_of_selects (args := #[]) (mvT hZ (hw _ (List.mem_of_getElem? (i := 27) rfl)))) (mvT hZ (hw _ (List.mem_of_getElem? (i := 27) rfl))) (mvT hZ (hw _ (List.mem_of_getElem? (i := 26) rfl))) (by decide) (backOf (W := 0) (rm_rz l Z a0 hw [] b2 (0 : Int32) (own_k q1 p2 p3 p4) (own_b q1) (own_d3 q1 p2 p3 p4) (own_sh (own_b q1)) T12.heap n0 Z12 fk12_1 fk12_2 fk12_3 fk12_0 f4) hZ (hw _ (List.mem_of_getElem? (i := 28) rfl)) (hw _ (List.mem_of_getElem? (i := 8) rfl)) (by decide) (by decide)) q13a q13c (g := (mkF m 200 #[.val (.long q1), .second, .val (.int p2), .val (.int p3), .val (.int p4), .val (.long (own_b q1)), .second, .val (.ref b2), .val (.int (own_x p2)), .val (.int (own_rz (own_b q1) (0 : Int64) (0 : Int32) (own_x p2))), .val (.int (own_e1 q1 p2)), .val (.long (own_h1 q1 p2)), .second, .val (.int (own_h q1 p2 p3)), .val (.int (own_x p4)), .val (.int (own_rz (own_b q1) (own_d1 q1 p2) (own_h q1 p2 p3) (own_x p4))), .val (.long (own_more q1 p2 p3 p4)), .second, .val (.int (own_e2 q1 p2 p3 p4)), .val (.long (own_h2 q1 p2 p3 p4)), .second, .val (.int (own_e (own_d2 q1 p2 p3 p4) (own_sh (own_b q1)))), .val (.int (own_e (own_h2 q1 p2 p3 p4) (own_b q1 - own_b q1 / (4 : Int64)))), .val (.int (own_k q1 p2 p3 p4)), .val (.int (own_rz (own_b q1) (own_d2 q1 p2 p3 p4) (0 : Int32) ((own_k q1 p2 p3 p4) + (1 : Int32)))), .unset] [(.int (own_k q1 p2 p3 p4)), (.int (0 : Int32)), (.ref b2)])) rfl (by rw [hml]; rfl) (Steps.refl _) (argsL := [(.int (0 : Int32)), (.int (own_k q1 p2 p3 p4))]) (rest := []) (lenOf pd__II_Z_317 rfl) rfl (by show 2 * 0 + _ ≤ _; exact Nat.le_of_eq rfl) (hb hby at_200) (fun _ _ => ⟨rfl, rfl, (by decide : 1 + 0 ≤ _), (by decide : 3 + 0 ≤ _)⟩)
  dsimp only [Pt.U, Pt.locs, Pt.cells, Pt.slots] at X13 l13 y13 z13 st13 hQ13
  subst l13 y13 z13
  obtain ⟨rfl, N13q, K13, fk13_0, fk13_1, fk13_2, fk13_3⟩ := hQ13
  have f5 : n0 ≤ b2 := f4
  have Z13 : n0 ≤ T13.heap.size := Nat.le_trans Z12 K13.1
  have N13 := Fr.app N12 N13q
  obtain ⟨fs, hr, hrun, hended, hW, hsame⟩ := X13.leave (v := some (.int (1 : Int32))) (fun h => by rw [Bd.returns] at h; cases h)
  refine ⟨_, _, pre_11 _ ?_, hrun, hended, _, _, rfl, ?_, ⟨_, rfl⟩, hW, hsame.mono (by decide) (by decide)⟩
  · show Steps p.tables e below (T10.setTop (mkF m 173 #[.val (.long q1), .second, .val (.int p2), .val (.int p3), .val (.int p4), .val (.long (own_b q1)), .second, .val (.ref b2), .val (.int (own_x p2)), .val (.int (own_rz (own_b q1) (0 : Int64) (0 : Int32) (own_x p2))), .val (.int (own_e1 q1 p2)), .val (.long (own_h1 q1 p2)), .second, .val (.int (own_h q1 p2 p3)), .val (.int (own_x p4)), .val (.int (own_rz (own_b q1) (own_d1 q1 p2) (own_h q1 p2 p3) (own_x p4))), .val (.long (own_more q1 p2 p3 p4)), .second, .val (.int (own_e2 q1 p2 p3 p4)), .val (.long (own_h2 q1 p2 p3 p4)), .second, .val (.int (own_e (own_d2 q1 p2 p3 p4) (own_sh (own_b q1)))), .unset, .unset, .unset, .unset] [(.int (own_e (own_h2 q1 p2 p3 p4) (own_b q1 - own_b q1 / (4 : Int64))))])) _
    refine XS.istore X10.here hx rfl (hb hby at_173) rfl (l' := #[.val (.long q1), .second, .val (.int p2), .val (.int p3), .val (.int p4), .val (.long (own_b q1)), .second, .val (.ref b2), .val (.int (own_x p2)), .val (.int (own_rz (own_b q1) (0 : Int64) (0 : Int32) (own_x p2))), .val (.int (own_e1 q1 p2)), .val (.long (own_h1 q1 p2)), .second, .val (.int (own_h q1 p2 p3)), .val (.int (own_x p4)), .val (.int (own_rz (own_b q1) (own_d1 q1 p2) (own_h q1 p2 p3) (own_x p4))), .val (.long (own_more q1 p2 p3 p4)), .second, .val (.int (own_e2 q1 p2 p3 p4)), .val (.long (own_h2 q1 p2 p3 p4)), .second, .val (.int (own_e (own_d2 q1 p2 p3 p4) (own_sh (own_b q1)))), .val (.int (own_e (own_h2 q1 p2 p3 p4) (own_b q1 - own_b q1 / (4 : Int64)))), .unset, .unset, .unset]) rfl ?_
    show Steps p.tables e below (T10.setTop (mkF m 175 #[.val (.long q1), .second, .val (.int p2), .val (.int p3), .val (.int p4), .val (.long (own_b q1)), .second, .val (.ref b2), .val (.int (own_x p2)), .val (.int (own_rz (own_b q1) (0 : Int64) (0 : Int32) (own_x p2))), .val (.int (own_e1 q1 p2)), .val (.long (own_h1 q1 p2)), .second, .val (.int (own_h q1 p2 p3)), .val (.int (own_x p4)), .val (.int (own_rz (own_b q1) (own_d1 q1 p2) (own_h q1 p2 p3) (own_x p4))), .val (.long (own_more q1 p2 p3 p4)), .second, .val (.int (own_e2 q1 p2 p3 p4)), .val (.long (own_h2 q1 p2 p3 p4)), .second, .val (.int (own_e (own_d2 q1 p2 p3 p4) (own_sh (own_b q1)))), .val (.int (own_e (own_h2 q1 p2 p3 p4) (own_b q1 - own_b q1 / (4 : Int64)))), .unset, .unset, .unset] [])) _
    refine XS.lload X10.here hx rfl (hb hby at_175) rfl ?_
    show Steps p.tables e below (T10.setTop (mkF m 177 #[.val (.long q1), .second, .val (.int p2), .val (.int p3), .val (.int p4), .val (.long (own_b q1)), .second, .val (.ref b2), .val (.int (own_x p2)), .val (.int (own_rz (own_b q1) (0 : Int64) (0 : Int32) (own_x p2))), .val (.int (own_e1 q1 p2)), .val (.long (own_h1 q1 p2)), .second, .val (.int (own_h q1 p2 p3)), .val (.int (own_x p4)), .val (.int (own_rz (own_b q1) (own_d1 q1 p2) (own_h q1 p2 p3) (own_x p4))), .val (.long (own_more q1 p2 p3 p4)), .second, .val (.int (own_e2 q1 p2 p3 p4)), .val (.long (own_h2 q1 p2 p3 p4)), .second, .val (.int (own_e (own_d2 q1 p2 p3 p4) (own_sh (own_b q1)))), .val (.int (own_e (own_h2 q1 p2 p3 p4) (own_b q1 - own_b q1 / (4 : Int64)))), .unset, .unset, .unset] [(.long (own_b q1))])) _
    refine XS.lload X10.here hx rfl (hb hby at_177) rfl ?_
    show Steps p.tables e below (T10.setTop (mkF m 179 #[.val (.long q1), .second, .val (.int p2), .val (.int p3), .val (.int p4), .val (.long (own_b q1)), .second, .val (.ref b2), .val (.int (own_x p2)), .val (.int (own_rz (own_b q1) (0 : Int64) (0 : Int32) (own_x p2))), .val (.int (own_e1 q1 p2)), .val (.long (own_h1 q1 p2)), .second, .val (.int (own_h q1 p2 p3)), .val (.int (own_x p4)), .val (.int (own_rz (own_b q1) (own_d1 q1 p2) (own_h q1 p2 p3) (own_x p4))), .val (.long (own_more q1 p2 p3 p4)), .second, .val (.int (own_e2 q1 p2 p3 p4)), .val (.long (own_h2 q1 p2 p3 p4)), .second, .val (.int (own_e (own_d2 q1 p2 p3 p4) (own_sh (own_b q1)))), .val (.int (own_e (own_h2 q1 p2 p3 p4) (own_b q1 - own_b q1 / (4 : Int64)))), .unset, .unset, .unset] [(.long (own_h2 q1 p2 p3 p4)), (.long (own_b q1))])) _
    refine XS.lsub X10.here hx rfl (hb hby at_179) rfl ?_
    show Steps p.tables e below (T10.setTop (mkF m 180 #[.val (.long q1), .second, .val (.int p2), .val (.int p3), .val (.int p4), .val (.long (own_b q1)), .second, .val (.ref b2), .val (.int (own_x p2)), .val (.int (own_rz (own_b q1) (0 : Int64) (0 : Int32) (own_x p2))), .val (.int (own_e1 q1 p2)), .val (.long (own_h1 q1 p2)), .second, .val (.int (own_h q1 p2 p3)), .val (.int (own_x p4)), .val (.int (own_rz (own_b q1) (own_d1 q1 p2) (own_h q1 p2 p3) (own_x p4))), .val (.long (own_more q1 p2 p3 p4)), .second, .val (.int (own_e2 q1 p2 p3 p4)), .val (.long (own_h2 q1 p2 p3 p4)), .second, .val (.int (own_e (own_d2 q1 p2 p3 p4) (own_sh (own_b q1)))), .val (.int (own_e (own_h2 q1 p2 p3 p4) (own_b q1 - own_b q1 / (4 : Int64)))), .unset, .unset, .unset] [(.long ((own_b q1) - (own_h2 q1 p2 p3 p4)))])) _
    refine XS.l2i X10.here hx rfl (hb hby at_180) rfl ?_
    show Steps p.tables e below (T10.setTop (mkF m 181 #[.val (.long q1), .second, .val (.int p2), .val (.int p3), .val (.int p4), .val (.long (own_b q1)), .second, .val (.ref b2), .val (.int (own_x p2)), .val (.int (own_rz (own_b q1) (0 : Int64) (0 : Int32) (own_x p2))), .val (.int (own_e1 q1 p2)), .val (.long (own_h1 q1 p2)), .second, .val (.int (own_h q1 p2 p3)), .val (.int (own_x p4)), .val (.int (own_rz (own_b q1) (own_d1 q1 p2) (own_h q1 p2 p3) (own_x p4))), .val (.long (own_more q1 p2 p3 p4)), .second, .val (.int (own_e2 q1 p2 p3 p4)), .val (.long (own_h2 q1 p2 p3 p4)), .second, .val (.int (own_e (own_d2 q1 p2 p3 p4) (own_sh (own_b q1)))), .val (.int (own_e (own_h2 q1 p2 p3 p4) (own_b q1 - own_b q1 / (4 : Int64)))), .unset, .unset, .unset] [(.int (((own_b q1) - (own_h2 q1 p2 p3 p4)).toInt32))])) _
    refine XS.istore X10.here hx rfl (hb hby at_181) rfl (l' := #[.val (.long q1), .second, .val (.int p2), .val (.int p3), .val (.int p4), .val (.long (own_b q1)), .second, .val (.ref b2), .val (.int (own_x p2)), .val (.int (own_rz (own_b q1) (0 : Int64) (0 : Int32) (own_x p2))), .val (.int (own_e1 q1 p2)), .val (.long (own_h1 q1 p2)), .second, .val (.int (own_h q1 p2 p3)), .val (.int (own_x p4)), .val (.int (own_rz (own_b q1) (own_d1 q1 p2) (own_h q1 p2 p3) (own_x p4))), .val (.long (own_more q1 p2 p3 p4)), .second, .val (.int (own_e2 q1 p2 p3 p4)), .val (.long (own_h2 q1 p2 p3 p4)), .second, .val (.int (own_e (own_d2 q1 p2 p3 p4) (own_sh (own_b q1)))), .val (.int (own_e (own_h2 q1 p2 p3 p4) (own_b q1 - own_b q1 / (4 : Int64)))), .val (.int (((own_b q1) - (own_h2 q1 p2 p3 p4)).toInt32)), .unset, .unset]) rfl ?_
    show Steps p.tables e below (T10.setTop (mkF m 183 #[.val (.long q1), .second, .val (.int p2), .val (.int p3), .val (.int p4), .val (.long (own_b q1)), .second, .val (.ref b2), .val (.int (own_x p2)), .val (.int (own_rz (own_b q1) (0 : Int64) (0 : Int32) (own_x p2))), .val (.int (own_e1 q1 p2)), .val (.long (own_h1 q1 p2)), .second, .val (.int (own_h q1 p2 p3)), .val (.int (own_x p4)), .val (.int (own_rz (own_b q1) (own_d1 q1 p2) (own_h q1 p2 p3) (own_x p4))), .val (.long (own_more q1 p2 p3 p4)), .second, .val (.int (own_e2 q1 p2 p3 p4)), .val (.long (own_h2 q1 p2 p3 p4)), .second, .val (.int (own_e (own_d2 q1 p2 p3 p4) (own_sh (own_b q1)))), .val (.int (own_e (own_h2 q1 p2 p3 p4) (own_b q1 - own_b q1 / (4 : Int64)))), .val (.int (own_k q1 p2 p3 p4)), .unset, .unset] [])) _
    refine XS.aload X10.here hx rfl (hb hby at_183) rfl rfl ?_
    show Steps p.tables e below (T10.setTop (mkF m 185 #[.val (.long q1), .second, .val (.int p2), .val (.int p3), .val (.int p4), .val (.long (own_b q1)), .second, .val (.ref b2), .val (.int (own_x p2)), .val (.int (own_rz (own_b q1) (0 : Int64) (0 : Int32) (own_x p2))), .val (.int (own_e1 q1 p2)), .val (.long (own_h1 q1 p2)), .second, .val (.int (own_h q1 p2 p3)), .val (.int (own_x p4)), .val (.int (own_rz (own_b q1) (own_d1 q1 p2) (own_h q1 p2 p3) (own_x p4))), .val (.long (own_more q1 p2 p3 p4)), .second, .val (.int (own_e2 q1 p2 p3 p4)), .val (.long (own_h2 q1 p2 p3 p4)), .second, .val (.int (own_e (own_d2 q1 p2 p3 p4) (own_sh (own_b q1)))), .val (.int (own_e (own_h2 q1 p2 p3 p4) (own_b q1 - own_b q1 / (4 : Int64)))), .val (.int (own_k q1 p2 p3 p4)), .unset, .unset] [(.ref b2)])) _
    refine XS.iconst X10.here hx rfl (hb hby at_185) ?_
    show Steps p.tables e below (T10.setTop (mkF m 186 #[.val (.long q1), .second, .val (.int p2), .val (.int p3), .val (.int p4), .val (.long (own_b q1)), .second, .val (.ref b2), .val (.int (own_x p2)), .val (.int (own_rz (own_b q1) (0 : Int64) (0 : Int32) (own_x p2))), .val (.int (own_e1 q1 p2)), .val (.long (own_h1 q1 p2)), .second, .val (.int (own_h q1 p2 p3)), .val (.int (own_x p4)), .val (.int (own_rz (own_b q1) (own_d1 q1 p2) (own_h q1 p2 p3) (own_x p4))), .val (.long (own_more q1 p2 p3 p4)), .second, .val (.int (own_e2 q1 p2 p3 p4)), .val (.long (own_h2 q1 p2 p3 p4)), .second, .val (.int (own_e (own_d2 q1 p2 p3 p4) (own_sh (own_b q1)))), .val (.int (own_e (own_h2 q1 p2 p3 p4) (own_b q1 - own_b q1 / (4 : Int64)))), .val (.int (own_k q1 p2 p3 p4)), .unset, .unset] [(.int (0 : Int32)), (.ref b2)])) _
    refine XS.iload X10.here hx rfl (hb hby at_186) rfl ?_
    show Steps p.tables e below (T10.setTop (mkF m 188 #[.val (.long q1), .second, .val (.int p2), .val (.int p3), .val (.int p4), .val (.long (own_b q1)), .second, .val (.ref b2), .val (.int (own_x p2)), .val (.int (own_rz (own_b q1) (0 : Int64) (0 : Int32) (own_x p2))), .val (.int (own_e1 q1 p2)), .val (.long (own_h1 q1 p2)), .second, .val (.int (own_h q1 p2 p3)), .val (.int (own_x p4)), .val (.int (own_rz (own_b q1) (own_d1 q1 p2) (own_h q1 p2 p3) (own_x p4))), .val (.long (own_more q1 p2 p3 p4)), .second, .val (.int (own_e2 q1 p2 p3 p4)), .val (.long (own_h2 q1 p2 p3 p4)), .second, .val (.int (own_e (own_d2 q1 p2 p3 p4) (own_sh (own_b q1)))), .val (.int (own_e (own_h2 q1 p2 p3 p4) (own_b q1 - own_b q1 / (4 : Int64)))), .val (.int (own_k q1 p2 p3 p4)), .unset, .unset] [(.int (own_k q1 p2 p3 p4)), (.int (0 : Int32)), (.ref b2)])) _
    refine XS.iconst X10.here hx rfl (hb hby at_188) ?_
    show Steps p.tables e below (T10.setTop (mkF m 189 #[.val (.long q1), .second, .val (.int p2), .val (.int p3), .val (.int p4), .val (.long (own_b q1)), .second, .val (.ref b2), .val (.int (own_x p2)), .val (.int (own_rz (own_b q1) (0 : Int64) (0 : Int32) (own_x p2))), .val (.int (own_e1 q1 p2)), .val (.long (own_h1 q1 p2)), .second, .val (.int (own_h q1 p2 p3)), .val (.int (own_x p4)), .val (.int (own_rz (own_b q1) (own_d1 q1 p2) (own_h q1 p2 p3) (own_x p4))), .val (.long (own_more q1 p2 p3 p4)), .second, .val (.int (own_e2 q1 p2 p3 p4)), .val (.long (own_h2 q1 p2 p3 p4)), .second, .val (.int (own_e (own_d2 q1 p2 p3 p4) (own_sh (own_b q1)))), .val (.int (own_e (own_h2 q1 p2 p3 p4) (own_b q1 - own_b q1 / (4 : Int64)))), .val (.int (own_k q1 p2 p3 p4)), .unset, .unset] [(.int (1 : Int32)), (.int (own_k q1 p2 p3 p4)), (.int (0 : Int32)), (.ref b2)])) _
    refine XS.iadd X10.here hx rfl (hb hby at_189) rfl ?_
    show Steps p.tables e below (T10.setTop (mkF m 190 #[.val (.long q1), .second, .val (.int p2), .val (.int p3), .val (.int p4), .val (.long (own_b q1)), .second, .val (.ref b2), .val (.int (own_x p2)), .val (.int (own_rz (own_b q1) (0 : Int64) (0 : Int32) (own_x p2))), .val (.int (own_e1 q1 p2)), .val (.long (own_h1 q1 p2)), .second, .val (.int (own_h q1 p2 p3)), .val (.int (own_x p4)), .val (.int (own_rz (own_b q1) (own_d1 q1 p2) (own_h q1 p2 p3) (own_x p4))), .val (.long (own_more q1 p2 p3 p4)), .second, .val (.int (own_e2 q1 p2 p3 p4)), .val (.long (own_h2 q1 p2 p3 p4)), .second, .val (.int (own_e (own_d2 q1 p2 p3 p4) (own_sh (own_b q1)))), .val (.int (own_e (own_h2 q1 p2 p3 p4) (own_b q1 - own_b q1 / (4 : Int64)))), .val (.int (own_k q1 p2 p3 p4)), .unset, .unset] [(.int ((own_k q1 p2 p3 p4) + (1 : Int32))), (.int (0 : Int32)), (.ref b2)])) _
    refine st12.trans ?_
    show Steps p.tables e below (T12.setTop (mkF m 193 #[.val (.long q1), .second, .val (.int p2), .val (.int p3), .val (.int p4), .val (.long (own_b q1)), .second, .val (.ref b2), .val (.int (own_x p2)), .val (.int (own_rz (own_b q1) (0 : Int64) (0 : Int32) (own_x p2))), .val (.int (own_e1 q1 p2)), .val (.long (own_h1 q1 p2)), .second, .val (.int (own_h q1 p2 p3)), .val (.int (own_x p4)), .val (.int (own_rz (own_b q1) (own_d1 q1 p2) (own_h q1 p2 p3) (own_x p4))), .val (.long (own_more q1 p2 p3 p4)), .second, .val (.int (own_e2 q1 p2 p3 p4)), .val (.long (own_h2 q1 p2 p3 p4)), .second, .val (.int (own_e (own_d2 q1 p2 p3 p4) (own_sh (own_b q1)))), .val (.int (own_e (own_h2 q1 p2 p3 p4) (own_b q1 - own_b q1 / (4 : Int64)))), .val (.int (own_k q1 p2 p3 p4)), .unset, .unset] [(.int (own_rz (own_b q1) (own_d2 q1 p2 p3 p4) (0 : Int32) ((own_k q1 p2 p3 p4) + (1 : Int32))))])) _
    refine XS.istore X12.here hx rfl (hb hby at_193) rfl (l' := #[.val (.long q1), .second, .val (.int p2), .val (.int p3), .val (.int p4), .val (.long (own_b q1)), .second, .val (.ref b2), .val (.int (own_x p2)), .val (.int (own_rz (own_b q1) (0 : Int64) (0 : Int32) (own_x p2))), .val (.int (own_e1 q1 p2)), .val (.long (own_h1 q1 p2)), .second, .val (.int (own_h q1 p2 p3)), .val (.int (own_x p4)), .val (.int (own_rz (own_b q1) (own_d1 q1 p2) (own_h q1 p2 p3) (own_x p4))), .val (.long (own_more q1 p2 p3 p4)), .second, .val (.int (own_e2 q1 p2 p3 p4)), .val (.long (own_h2 q1 p2 p3 p4)), .second, .val (.int (own_e (own_d2 q1 p2 p3 p4) (own_sh (own_b q1)))), .val (.int (own_e (own_h2 q1 p2 p3 p4) (own_b q1 - own_b q1 / (4 : Int64)))), .val (.int (own_k q1 p2 p3 p4)), .val (.int (own_rz (own_b q1) (own_d2 q1 p2 p3 p4) (0 : Int32) ((own_k q1 p2 p3 p4) + (1 : Int32)))), .unset]) rfl ?_
    show Steps p.tables e below (T12.setTop (mkF m 195 #[.val (.long q1), .second, .val (.int p2), .val (.int p3), .val (.int p4), .val (.long (own_b q1)), .second, .val (.ref b2), .val (.int (own_x p2)), .val (.int (own_rz (own_b q1) (0 : Int64) (0 : Int32) (own_x p2))), .val (.int (own_e1 q1 p2)), .val (.long (own_h1 q1 p2)), .second, .val (.int (own_h q1 p2 p3)), .val (.int (own_x p4)), .val (.int (own_rz (own_b q1) (own_d1 q1 p2) (own_h q1 p2 p3) (own_x p4))), .val (.long (own_more q1 p2 p3 p4)), .second, .val (.int (own_e2 q1 p2 p3 p4)), .val (.long (own_h2 q1 p2 p3 p4)), .second, .val (.int (own_e (own_d2 q1 p2 p3 p4) (own_sh (own_b q1)))), .val (.int (own_e (own_h2 q1 p2 p3 p4) (own_b q1 - own_b q1 / (4 : Int64)))), .val (.int (own_k q1 p2 p3 p4)), .val (.int (own_rz (own_b q1) (own_d2 q1 p2 p3 p4) (0 : Int32) ((own_k q1 p2 p3 p4) + (1 : Int32)))), .unset] [])) _
    refine XS.aload X12.here hx rfl (hb hby at_195) rfl rfl ?_
    show Steps p.tables e below (T12.setTop (mkF m 197 #[.val (.long q1), .second, .val (.int p2), .val (.int p3), .val (.int p4), .val (.long (own_b q1)), .second, .val (.ref b2), .val (.int (own_x p2)), .val (.int (own_rz (own_b q1) (0 : Int64) (0 : Int32) (own_x p2))), .val (.int (own_e1 q1 p2)), .val (.long (own_h1 q1 p2)), .second, .val (.int (own_h q1 p2 p3)), .val (.int (own_x p4)), .val (.int (own_rz (own_b q1) (own_d1 q1 p2) (own_h q1 p2 p3) (own_x p4))), .val (.long (own_more q1 p2 p3 p4)), .second, .val (.int (own_e2 q1 p2 p3 p4)), .val (.long (own_h2 q1 p2 p3 p4)), .second, .val (.int (own_e (own_d2 q1 p2 p3 p4) (own_sh (own_b q1)))), .val (.int (own_e (own_h2 q1 p2 p3 p4) (own_b q1 - own_b q1 / (4 : Int64)))), .val (.int (own_k q1 p2 p3 p4)), .val (.int (own_rz (own_b q1) (own_d2 q1 p2 p3 p4) (0 : Int32) ((own_k q1 p2 p3 p4) + (1 : Int32)))), .unset] [(.ref b2)])) _
    refine XS.iconst X12.here hx rfl (hb hby at_197) ?_
    show Steps p.tables e below (T12.setTop (mkF m 198 #[.val (.long q1), .second, .val (.int p2), .val (.int p3), .val (.int p4), .val (.long (own_b q1)), .second, .val (.ref b2), .val (.int (own_x p2)), .val (.int (own_rz (own_b q1) (0 : Int64) (0 : Int32) (own_x p2))), .val (.int (own_e1 q1 p2)), .val (.long (own_h1 q1 p2)), .second, .val (.int (own_h q1 p2 p3)), .val (.int (own_x p4)), .val (.int (own_rz (own_b q1) (own_d1 q1 p2) (own_h q1 p2 p3) (own_x p4))), .val (.long (own_more q1 p2 p3 p4)), .second, .val (.int (own_e2 q1 p2 p3 p4)), .val (.long (own_h2 q1 p2 p3 p4)), .second, .val (.int (own_e (own_d2 q1 p2 p3 p4) (own_sh (own_b q1)))), .val (.int (own_e (own_h2 q1 p2 p3 p4) (own_b q1 - own_b q1 / (4 : Int64)))), .val (.int (own_k q1 p2 p3 p4)), .val (.int (own_rz (own_b q1) (own_d2 q1 p2 p3 p4) (0 : Int32) ((own_k q1 p2 p3 p4) + (1 : Int32)))), .unset] [(.int (0 : Int32)), (.ref b2)])) _
    refine XS.iload X12.here hx rfl (hb hby at_198) rfl ?_
    show Steps p.tables e below (T12.setTop (mkF m 200 #[.val (.long q1), .second, .val (.int p2), .val (.int p3), .val (.int p4), .val (.long (own_b q1)), .second, .val (.ref b2), .val (.int (own_x p2)), .val (.int (own_rz (own_b q1) (0 : Int64) (0 : Int32) (own_x p2))), .val (.int (own_e1 q1 p2)), .val (.long (own_h1 q1 p2)), .second, .val (.int (own_h q1 p2 p3)), .val (.int (own_x p4)), .val (.int (own_rz (own_b q1) (own_d1 q1 p2) (own_h q1 p2 p3) (own_x p4))), .val (.long (own_more q1 p2 p3 p4)), .second, .val (.int (own_e2 q1 p2 p3 p4)), .val (.long (own_h2 q1 p2 p3 p4)), .second, .val (.int (own_e (own_d2 q1 p2 p3 p4) (own_sh (own_b q1)))), .val (.int (own_e (own_h2 q1 p2 p3 p4) (own_b q1 - own_b q1 / (4 : Int64)))), .val (.int (own_k q1 p2 p3 p4)), .val (.int (own_rz (own_b q1) (own_d2 q1 p2 p3 p4) (0 : Int32) ((own_k q1 p2 p3 p4) + (1 : Int32)))), .unset] [(.int (own_k q1 p2 p3 p4)), (.int (0 : Int32)), (.ref b2)])) _
    refine st13.trans ?_
    show Steps p.tables e below (T13.setTop (mkF m 203 #[.val (.long q1), .second, .val (.int p2), .val (.int p3), .val (.int p4), .val (.long (own_b q1)), .second, .val (.ref b2), .val (.int (own_x p2)), .val (.int (own_rz (own_b q1) (0 : Int64) (0 : Int32) (own_x p2))), .val (.int (own_e1 q1 p2)), .val (.long (own_h1 q1 p2)), .second, .val (.int (own_h q1 p2 p3)), .val (.int (own_x p4)), .val (.int (own_rz (own_b q1) (own_d1 q1 p2) (own_h q1 p2 p3) (own_x p4))), .val (.long (own_more q1 p2 p3 p4)), .second, .val (.int (own_e2 q1 p2 p3 p4)), .val (.long (own_h2 q1 p2 p3 p4)), .second, .val (.int (own_e (own_d2 q1 p2 p3 p4) (own_sh (own_b q1)))), .val (.int (own_e (own_h2 q1 p2 p3 p4) (own_b q1 - own_b q1 / (4 : Int64)))), .val (.int (own_k q1 p2 p3 p4)), .val (.int (own_rz (own_b q1) (own_d2 q1 p2 p3 p4) (0 : Int32) ((own_k q1 p2 p3 p4) + (1 : Int32)))), .unset] [(.int (own_rz (own_b q1) (own_d3 q1 p2 p3 p4) (0 : Int32) (own_k q1 p2 p3 p4)))])) _
    refine XS.istore X13.here hx rfl (hb hby at_203) rfl (l' := #[.val (.long q1), .second, .val (.int p2), .val (.int p3), .val (.int p4), .val (.long (own_b q1)), .second, .val (.ref b2), .val (.int (own_x p2)), .val (.int (own_rz (own_b q1) (0 : Int64) (0 : Int32) (own_x p2))), .val (.int (own_e1 q1 p2)), .val (.long (own_h1 q1 p2)), .second, .val (.int (own_h q1 p2 p3)), .val (.int (own_x p4)), .val (.int (own_rz (own_b q1) (own_d1 q1 p2) (own_h q1 p2 p3) (own_x p4))), .val (.long (own_more q1 p2 p3 p4)), .second, .val (.int (own_e2 q1 p2 p3 p4)), .val (.long (own_h2 q1 p2 p3 p4)), .second, .val (.int (own_e (own_d2 q1 p2 p3 p4) (own_sh (own_b q1)))), .val (.int (own_e (own_h2 q1 p2 p3 p4) (own_b q1 - own_b q1 / (4 : Int64)))), .val (.int (own_k q1 p2 p3 p4)), .val (.int (own_rz (own_b q1) (own_d2 q1 p2 p3 p4) (0 : Int32) ((own_k q1 p2 p3 p4) + (1 : Int32)))), .val (.int (own_rz (own_b q1) (own_d3 q1 p2 p3 p4) (0 : Int32) (own_k q1 p2 p3 p4)))]) rfl ?_
    show Steps p.tables e below (T13.setTop (mkF m 205 #[.val (.long q1), .second, .val (.int p2), .val (.int p3), .val (.int p4), .val (.long (own_b q1)), .second, .val (.ref b2), .val (.int (own_x p2)), .val (.int (own_rz (own_b q1) (0 : Int64) (0 : Int32) (own_x p2))), .val (.int (own_e1 q1 p2)), .val (.long (own_h1 q1 p2)), .second, .val (.int (own_h q1 p2 p3)), .val (.int (own_x p4)), .val (.int (own_rz (own_b q1) (own_d1 q1 p2) (own_h q1 p2 p3) (own_x p4))), .val (.long (own_more q1 p2 p3 p4)), .second, .val (.int (own_e2 q1 p2 p3 p4)), .val (.long (own_h2 q1 p2 p3 p4)), .second, .val (.int (own_e (own_d2 q1 p2 p3 p4) (own_sh (own_b q1)))), .val (.int (own_e (own_h2 q1 p2 p3 p4) (own_b q1 - own_b q1 / (4 : Int64)))), .val (.int (own_k q1 p2 p3 p4)), .val (.int (own_rz (own_b q1) (own_d2 q1 p2 p3 p4) (0 : Int32) ((own_k q1 p2 p3 p4) + (1 : Int32)))), .val (.int (own_rz (own_b q1) (own_d3 q1 p2 p3 p4) (0 : Int32) (own_k q1 p2 p3 p4)))] [])) _
    refine XS.iload X13.here hx rfl (hb hby at_205) rfl ?_
    show Steps p.tables e below (T13.setTop (mkF m 207 #[.val (.long q1), .second, .val (.int p2), .val (.int p3), .val (.int p4), .val (.long (own_b q1)), .second, .val (.ref b2), .val (.int (own_x p2)), .val (.int (own_rz (own_b q1) (0 : Int64) (0 : Int32) (own_x p2))), .val (.int (own_e1 q1 p2)), .val (.long (own_h1 q1 p2)), .second, .val (.int (own_h q1 p2 p3)), .val (.int (own_x p4)), .val (.int (own_rz (own_b q1) (own_d1 q1 p2) (own_h q1 p2 p3) (own_x p4))), .val (.long (own_more q1 p2 p3 p4)), .second, .val (.int (own_e2 q1 p2 p3 p4)), .val (.long (own_h2 q1 p2 p3 p4)), .second, .val (.int (own_e (own_d2 q1 p2 p3 p4) (own_sh (own_b q1)))), .val (.int (own_e (own_h2 q1 p2 p3 p4) (own_b q1 - own_b q1 / (4 : Int64)))), .val (.int (own_k q1 p2 p3 p4)), .val (.int (own_rz (own_b q1) (own_d2 q1 p2 p3 p4) (0 : Int32) ((own_k q1 p2 p3 p4) + (1 : Int32)))), .val (.int (own_rz (own_b q1) (own_d3 q1 p2 p3 p4) (0 : Int32) (own_k q1 p2 p3 p4)))] [(.int (own_rz (own_b q1) (0 : Int64) (0 : Int32) (own_x p2)))])) _
    refine XS.iload X13.here hx rfl (hb hby at_207) rfl ?_
    show Steps p.tables e below (T13.setTop (mkF m 209 #[.val (.long q1), .second, .val (.int p2), .val (.int p3), .val (.int p4), .val (.long (own_b q1)), .second, .val (.ref b2), .val (.int (own_x p2)), .val (.int (own_rz (own_b q1) (0 : Int64) (0 : Int32) (own_x p2))), .val (.int (own_e1 q1 p2)), .val (.long (own_h1 q1 p2)), .second, .val (.int (own_h q1 p2 p3)), .val (.int (own_x p4)), .val (.int (own_rz (own_b q1) (own_d1 q1 p2) (own_h q1 p2 p3) (own_x p4))), .val (.long (own_more q1 p2 p3 p4)), .second, .val (.int (own_e2 q1 p2 p3 p4)), .val (.long (own_h2 q1 p2 p3 p4)), .second, .val (.int (own_e (own_d2 q1 p2 p3 p4) (own_sh (own_b q1)))), .val (.int (own_e (own_h2 q1 p2 p3 p4) (own_b q1 - own_b q1 / (4 : Int64)))), .val (.int (own_k q1 p2 p3 p4)), .val (.int (own_rz (own_b q1) (own_d2 q1 p2 p3 p4) (0 : Int32) ((own_k q1 p2 p3 p4) + (1 : Int32)))), .val (.int (own_rz (own_b q1) (own_d3 q1 p2 p3 p4) (0 : Int32) (own_k q1 p2 p3 p4)))] [(.int (own_e1 q1 p2)), (.int (own_rz (own_b q1) (0 : Int64) (0 : Int32) (own_x p2)))])) _
    refine XS.icmpNo X13.here hx rfl (hb hby at_209) rfl (teq (own_1 q1 p2).1).2 ?_
    show Steps p.tables e below (T13.setTop (mkF m 212 #[.val (.long q1), .second, .val (.int p2), .val (.int p3), .val (.int p4), .val (.long (own_b q1)), .second, .val (.ref b2), .val (.int (own_x p2)), .val (.int (own_rz (own_b q1) (0 : Int64) (0 : Int32) (own_x p2))), .val (.int (own_e1 q1 p2)), .val (.long (own_h1 q1 p2)), .second, .val (.int (own_h q1 p2 p3)), .val (.int (own_x p4)), .val (.int (own_rz (own_b q1) (own_d1 q1 p2) (own_h q1 p2 p3) (own_x p4))), .val (.long (own_more q1 p2 p3 p4)), .second, .val (.int (own_e2 q1 p2 p3 p4)), .val (.long (own_h2 q1 p2 p3 p4)), .second, .val (.int (own_e (own_d2 q1 p2 p3 p4) (own_sh (own_b q1)))), .val (.int (own_e (own_h2 q1 p2 p3 p4) (own_b q1 - own_b q1 / (4 : Int64)))), .val (.int (own_k q1 p2 p3 p4)), .val (.int (own_rz (own_b q1) (own_d2 q1 p2 p3 p4) (0 : Int32) ((own_k q1 p2 p3 p4) + (1 : Int32)))), .val (.int (own_rz (own_b q1) (own_d3 q1 p2 p3 p4) (0 : Int32) (own_k q1 p2 p3 p4)))] [])) _
    refine XS.iload X13.here hx rfl (hb hby at_212) rfl ?_
    show Steps p.tables e below (T13.setTop (mkF m 214 #[.val (.long q1), .second, .val (.int p2), .val (.int p3), .val (.int p4), .val (.long (own_b q1)), .second, .val (.ref b2), .val (.int (own_x p2)), .val (.int (own_rz (own_b q1) (0 : Int64) (0 : Int32) (own_x p2))), .val (.int (own_e1 q1 p2)), .val (.long (own_h1 q1 p2)), .second, .val (.int (own_h q1 p2 p3)), .val (.int (own_x p4)), .val (.int (own_rz (own_b q1) (own_d1 q1 p2) (own_h q1 p2 p3) (own_x p4))), .val (.long (own_more q1 p2 p3 p4)), .second, .val (.int (own_e2 q1 p2 p3 p4)), .val (.long (own_h2 q1 p2 p3 p4)), .second, .val (.int (own_e (own_d2 q1 p2 p3 p4) (own_sh (own_b q1)))), .val (.int (own_e (own_h2 q1 p2 p3 p4) (own_b q1 - own_b q1 / (4 : Int64)))), .val (.int (own_k q1 p2 p3 p4)), .val (.int (own_rz (own_b q1) (own_d2 q1 p2 p3 p4) (0 : Int32) ((own_k q1 p2 p3 p4) + (1 : Int32)))), .val (.int (own_rz (own_b q1) (own_d3 q1 p2 p3 p4) (0 : Int32) (own_k q1 p2 p3 p4)))] [(.int (own_rz (own_b q1) (own_d1 q1 p2) (own_h q1 p2 p3) (own_x p4)))])) _
    refine XS.iload X13.here hx rfl (hb hby at_214) rfl ?_
    show Steps p.tables e below (T13.setTop (mkF m 216 #[.val (.long q1), .second, .val (.int p2), .val (.int p3), .val (.int p4), .val (.long (own_b q1)), .second, .val (.ref b2), .val (.int (own_x p2)), .val (.int (own_rz (own_b q1) (0 : Int64) (0 : Int32) (own_x p2))), .val (.int (own_e1 q1 p2)), .val (.long (own_h1 q1 p2)), .second, .val (.int (own_h q1 p2 p3)), .val (.int (own_x p4)), .val (.int (own_rz (own_b q1) (own_d1 q1 p2) (own_h q1 p2 p3) (own_x p4))), .val (.long (own_more q1 p2 p3 p4)), .second, .val (.int (own_e2 q1 p2 p3 p4)), .val (.long (own_h2 q1 p2 p3 p4)), .second, .val (.int (own_e (own_d2 q1 p2 p3 p4) (own_sh (own_b q1)))), .val (.int (own_e (own_h2 q1 p2 p3 p4) (own_b q1 - own_b q1 / (4 : Int64)))), .val (.int (own_k q1 p2 p3 p4)), .val (.int (own_rz (own_b q1) (own_d2 q1 p2 p3 p4) (0 : Int32) ((own_k q1 p2 p3 p4) + (1 : Int32)))), .val (.int (own_rz (own_b q1) (own_d3 q1 p2 p3 p4) (0 : Int32) (own_k q1 p2 p3 p4)))] [(.int (own_e2 q1 p2 p3 p4)), (.int (own_rz (own_b q1) (own_d1 q1 p2) (own_h q1 p2 p3) (own_x p4)))])) _
    refine XS.icmpNo X13.here hx rfl (hb hby at_216) rfl (teq (own_2 q1 p2 p3 p4).1).2 ?_
    show Steps p.tables e below (T13.setTop (mkF m 219 #[.val (.long q1), .second, .val (.int p2), .val (.int p3), .val (.int p4), .val (.long (own_b q1)), .second, .val (.ref b2), .val (.int (own_x p2)), .val (.int (own_rz (own_b q1) (0 : Int64) (0 : Int32) (own_x p2))), .val (.int (own_e1 q1 p2)), .val (.long (own_h1 q1 p2)), .second, .val (.int (own_h q1 p2 p3)), .val (.int (own_x p4)), .val (.int (own_rz (own_b q1) (own_d1 q1 p2) (own_h q1 p2 p3) (own_x p4))), .val (.long (own_more q1 p2 p3 p4)), .second, .val (.int (own_e2 q1 p2 p3 p4)), .val (.long (own_h2 q1 p2 p3 p4)), .second, .val (.int (own_e (own_d2 q1 p2 p3 p4) (own_sh (own_b q1)))), .val (.int (own_e (own_h2 q1 p2 p3 p4) (own_b q1 - own_b q1 / (4 : Int64)))), .val (.int (own_k q1 p2 p3 p4)), .val (.int (own_rz (own_b q1) (own_d2 q1 p2 p3 p4) (0 : Int32) ((own_k q1 p2 p3 p4) + (1 : Int32)))), .val (.int (own_rz (own_b q1) (own_d3 q1 p2 p3 p4) (0 : Int32) (own_k q1 p2 p3 p4)))] [])) _
    refine XS.iload X13.here hx rfl (hb hby at_219) rfl ?_
    show Steps p.tables e below (T13.setTop (mkF m 221 #[.val (.long q1), .second, .val (.int p2), .val (.int p3), .val (.int p4), .val (.long (own_b q1)), .second, .val (.ref b2), .val (.int (own_x p2)), .val (.int (own_rz (own_b q1) (0 : Int64) (0 : Int32) (own_x p2))), .val (.int (own_e1 q1 p2)), .val (.long (own_h1 q1 p2)), .second, .val (.int (own_h q1 p2 p3)), .val (.int (own_x p4)), .val (.int (own_rz (own_b q1) (own_d1 q1 p2) (own_h q1 p2 p3) (own_x p4))), .val (.long (own_more q1 p2 p3 p4)), .second, .val (.int (own_e2 q1 p2 p3 p4)), .val (.long (own_h2 q1 p2 p3 p4)), .second, .val (.int (own_e (own_d2 q1 p2 p3 p4) (own_sh (own_b q1)))), .val (.int (own_e (own_h2 q1 p2 p3 p4) (own_b q1 - own_b q1 / (4 : Int64)))), .val (.int (own_k q1 p2 p3 p4)), .val (.int (own_rz (own_b q1) (own_d2 q1 p2 p3 p4) (0 : Int32) ((own_k q1 p2 p3 p4) + (1 : Int32)))), .val (.int (own_rz (own_b q1) (own_d3 q1 p2 p3 p4) (0 : Int32) (own_k q1 p2 p3 p4)))] [(.int (own_e (own_d2 q1 p2 p3 p4) (own_sh (own_b q1))))])) _
    refine XS.iload X13.here hx rfl (hb hby at_221) rfl ?_
    show Steps p.tables e below (T13.setTop (mkF m 223 #[.val (.long q1), .second, .val (.int p2), .val (.int p3), .val (.int p4), .val (.long (own_b q1)), .second, .val (.ref b2), .val (.int (own_x p2)), .val (.int (own_rz (own_b q1) (0 : Int64) (0 : Int32) (own_x p2))), .val (.int (own_e1 q1 p2)), .val (.long (own_h1 q1 p2)), .second, .val (.int (own_h q1 p2 p3)), .val (.int (own_x p4)), .val (.int (own_rz (own_b q1) (own_d1 q1 p2) (own_h q1 p2 p3) (own_x p4))), .val (.long (own_more q1 p2 p3 p4)), .second, .val (.int (own_e2 q1 p2 p3 p4)), .val (.long (own_h2 q1 p2 p3 p4)), .second, .val (.int (own_e (own_d2 q1 p2 p3 p4) (own_sh (own_b q1)))), .val (.int (own_e (own_h2 q1 p2 p3 p4) (own_b q1 - own_b q1 / (4 : Int64)))), .val (.int (own_k q1 p2 p3 p4)), .val (.int (own_rz (own_b q1) (own_d2 q1 p2 p3 p4) (0 : Int32) ((own_k q1 p2 p3 p4) + (1 : Int32)))), .val (.int (own_rz (own_b q1) (own_d3 q1 p2 p3 p4) (0 : Int32) (own_k q1 p2 p3 p4)))] [(.int (own_e (own_h2 q1 p2 p3 p4) (own_b q1 - own_b q1 / (4 : Int64)))), (.int (own_e (own_d2 q1 p2 p3 p4) (own_sh (own_b q1))))])) _
    refine XS.icmpNo X13.here hx rfl (hb hby at_223) rfl (teq (own_3 q1 p2 p3 p4)).2 ?_
    show Steps p.tables e below (T13.setTop (mkF m 226 #[.val (.long q1), .second, .val (.int p2), .val (.int p3), .val (.int p4), .val (.long (own_b q1)), .second, .val (.ref b2), .val (.int (own_x p2)), .val (.int (own_rz (own_b q1) (0 : Int64) (0 : Int32) (own_x p2))), .val (.int (own_e1 q1 p2)), .val (.long (own_h1 q1 p2)), .second, .val (.int (own_h q1 p2 p3)), .val (.int (own_x p4)), .val (.int (own_rz (own_b q1) (own_d1 q1 p2) (own_h q1 p2 p3) (own_x p4))), .val (.long (own_more q1 p2 p3 p4)), .second, .val (.int (own_e2 q1 p2 p3 p4)), .val (.long (own_h2 q1 p2 p3 p4)), .second, .val (.int (own_e (own_d2 q1 p2 p3 p4) (own_sh (own_b q1)))), .val (.int (own_e (own_h2 q1 p2 p3 p4) (own_b q1 - own_b q1 / (4 : Int64)))), .val (.int (own_k q1 p2 p3 p4)), .val (.int (own_rz (own_b q1) (own_d2 q1 p2 p3 p4) (0 : Int32) ((own_k q1 p2 p3 p4) + (1 : Int32)))), .val (.int (own_rz (own_b q1) (own_d3 q1 p2 p3 p4) (0 : Int32) (own_k q1 p2 p3 p4)))] [])) _
    refine XS.iload X13.here hx rfl (hb hby at_226) rfl ?_
    show Steps p.tables e below (T13.setTop (mkF m 228 #[.val (.long q1), .second, .val (.int p2), .val (.int p3), .val (.int p4), .val (.long (own_b q1)), .second, .val (.ref b2), .val (.int (own_x p2)), .val (.int (own_rz (own_b q1) (0 : Int64) (0 : Int32) (own_x p2))), .val (.int (own_e1 q1 p2)), .val (.long (own_h1 q1 p2)), .second, .val (.int (own_h q1 p2 p3)), .val (.int (own_x p4)), .val (.int (own_rz (own_b q1) (own_d1 q1 p2) (own_h q1 p2 p3) (own_x p4))), .val (.long (own_more q1 p2 p3 p4)), .second, .val (.int (own_e2 q1 p2 p3 p4)), .val (.long (own_h2 q1 p2 p3 p4)), .second, .val (.int (own_e (own_d2 q1 p2 p3 p4) (own_sh (own_b q1)))), .val (.int (own_e (own_h2 q1 p2 p3 p4) (own_b q1 - own_b q1 / (4 : Int64)))), .val (.int (own_k q1 p2 p3 p4)), .val (.int (own_rz (own_b q1) (own_d2 q1 p2 p3 p4) (0 : Int32) ((own_k q1 p2 p3 p4) + (1 : Int32)))), .val (.int (own_rz (own_b q1) (own_d3 q1 p2 p3 p4) (0 : Int32) (own_k q1 p2 p3 p4)))] [(.int (own_rz (own_b q1) (own_d2 q1 p2 p3 p4) (0 : Int32) ((own_k q1 p2 p3 p4) + (1 : Int32))))])) _
    refine XS.ifNo X13.here hx rfl (hb hby at_228) rfl ((if0 _ _).trans (teq (own_4 q1 p2 p3 p4).1).2) ?_
    show Steps p.tables e below (T13.setTop (mkF m 231 #[.val (.long q1), .second, .val (.int p2), .val (.int p3), .val (.int p4), .val (.long (own_b q1)), .second, .val (.ref b2), .val (.int (own_x p2)), .val (.int (own_rz (own_b q1) (0 : Int64) (0 : Int32) (own_x p2))), .val (.int (own_e1 q1 p2)), .val (.long (own_h1 q1 p2)), .second, .val (.int (own_h q1 p2 p3)), .val (.int (own_x p4)), .val (.int (own_rz (own_b q1) (own_d1 q1 p2) (own_h q1 p2 p3) (own_x p4))), .val (.long (own_more q1 p2 p3 p4)), .second, .val (.int (own_e2 q1 p2 p3 p4)), .val (.long (own_h2 q1 p2 p3 p4)), .second, .val (.int (own_e (own_d2 q1 p2 p3 p4) (own_sh (own_b q1)))), .val (.int (own_e (own_h2 q1 p2 p3 p4) (own_b q1 - own_b q1 / (4 : Int64)))), .val (.int (own_k q1 p2 p3 p4)), .val (.int (own_rz (own_b q1) (own_d2 q1 p2 p3 p4) (0 : Int32) ((own_k q1 p2 p3 p4) + (1 : Int32)))), .val (.int (own_rz (own_b q1) (own_d3 q1 p2 p3 p4) (0 : Int32) (own_k q1 p2 p3 p4)))] [])) _
    refine XS.iload X13.here hx rfl (hb hby at_231) rfl ?_
    show Steps p.tables e below (T13.setTop (mkF m 233 #[.val (.long q1), .second, .val (.int p2), .val (.int p3), .val (.int p4), .val (.long (own_b q1)), .second, .val (.ref b2), .val (.int (own_x p2)), .val (.int (own_rz (own_b q1) (0 : Int64) (0 : Int32) (own_x p2))), .val (.int (own_e1 q1 p2)), .val (.long (own_h1 q1 p2)), .second, .val (.int (own_h q1 p2 p3)), .val (.int (own_x p4)), .val (.int (own_rz (own_b q1) (own_d1 q1 p2) (own_h q1 p2 p3) (own_x p4))), .val (.long (own_more q1 p2 p3 p4)), .second, .val (.int (own_e2 q1 p2 p3 p4)), .val (.long (own_h2 q1 p2 p3 p4)), .second, .val (.int (own_e (own_d2 q1 p2 p3 p4) (own_sh (own_b q1)))), .val (.int (own_e (own_h2 q1 p2 p3 p4) (own_b q1 - own_b q1 / (4 : Int64)))), .val (.int (own_k q1 p2 p3 p4)), .val (.int (own_rz (own_b q1) (own_d2 q1 p2 p3 p4) (0 : Int32) ((own_k q1 p2 p3 p4) + (1 : Int32)))), .val (.int (own_rz (own_b q1) (own_d3 q1 p2 p3 p4) (0 : Int32) (own_k q1 p2 p3 p4)))] [(.int (own_rz (own_b q1) (own_d3 q1 p2 p3 p4) (0 : Int32) (own_k q1 p2 p3 p4)))])) _
    refine XS.ifNo X13.here hx rfl (hb hby at_233) rfl ((if0 _ _).trans (feq (own_5 q1 p2 p3 p4)).1) ?_
    show Steps p.tables e below (T13.setTop (mkF m 236 #[.val (.long q1), .second, .val (.int p2), .val (.int p3), .val (.int p4), .val (.long (own_b q1)), .second, .val (.ref b2), .val (.int (own_x p2)), .val (.int (own_rz (own_b q1) (0 : Int64) (0 : Int32) (own_x p2))), .val (.int (own_e1 q1 p2)), .val (.long (own_h1 q1 p2)), .second, .val (.int (own_h q1 p2 p3)), .val (.int (own_x p4)), .val (.int (own_rz (own_b q1) (own_d1 q1 p2) (own_h q1 p2 p3) (own_x p4))), .val (.long (own_more q1 p2 p3 p4)), .second, .val (.int (own_e2 q1 p2 p3 p4)), .val (.long (own_h2 q1 p2 p3 p4)), .second, .val (.int (own_e (own_d2 q1 p2 p3 p4) (own_sh (own_b q1)))), .val (.int (own_e (own_h2 q1 p2 p3 p4) (own_b q1 - own_b q1 / (4 : Int64)))), .val (.int (own_k q1 p2 p3 p4)), .val (.int (own_rz (own_b q1) (own_d2 q1 p2 p3 p4) (0 : Int32) ((own_k q1 p2 p3 p4) + (1 : Int32)))), .val (.int (own_rz (own_b q1) (own_d3 q1 p2 p3 p4) (0 : Int32) (own_k q1 p2 p3 p4)))] [])) _
    refine XS.iconst X13.here hx rfl (hb hby at_236) ?_
    show Steps p.tables e below (T13.setTop (mkF m 237 #[.val (.long q1), .second, .val (.int p2), .val (.int p3), .val (.int p4), .val (.long (own_b q1)), .second, .val (.ref b2), .val (.int (own_x p2)), .val (.int (own_rz (own_b q1) (0 : Int64) (0 : Int32) (own_x p2))), .val (.int (own_e1 q1 p2)), .val (.long (own_h1 q1 p2)), .second, .val (.int (own_h q1 p2 p3)), .val (.int (own_x p4)), .val (.int (own_rz (own_b q1) (own_d1 q1 p2) (own_h q1 p2 p3) (own_x p4))), .val (.long (own_more q1 p2 p3 p4)), .second, .val (.int (own_e2 q1 p2 p3 p4)), .val (.long (own_h2 q1 p2 p3 p4)), .second, .val (.int (own_e (own_d2 q1 p2 p3 p4) (own_sh (own_b q1)))), .val (.int (own_e (own_h2 q1 p2 p3 p4) (own_b q1 - own_b q1 / (4 : Int64)))), .val (.int (own_k q1 p2 p3 p4)), .val (.int (own_rz (own_b q1) (own_d2 q1 p2 p3 p4) (0 : Int32) ((own_k q1 p2 p3 p4) + (1 : Int32)))), .val (.int (own_rz (own_b q1) (own_d3 q1 p2 p3 p4) (0 : Int32) (own_k q1 p2 p3 p4)))] [(.int (1 : Int32))])) _
    refine XS.goto X13.here hx rfl (pc0 := 237) (pc' := 241) rfl (hb hby at_237) (by decide) (by decide) ?_
    show Steps p.tables e below (T13.setTop (mkF m 241 #[.val (.long q1), .second, .val (.int p2), .val (.int p3), .val (.int p4), .val (.long (own_b q1)), .second, .val (.ref b2), .val (.int (own_x p2)), .val (.int (own_rz (own_b q1) (0 : Int64) (0 : Int32) (own_x p2))), .val (.int (own_e1 q1 p2)), .val (.long (own_h1 q1 p2)), .second, .val (.int (own_h q1 p2 p3)), .val (.int (own_x p4)), .val (.int (own_rz (own_b q1) (own_d1 q1 p2) (own_h q1 p2 p3) (own_x p4))), .val (.long (own_more q1 p2 p3 p4)), .second, .val (.int (own_e2 q1 p2 p3 p4)), .val (.long (own_h2 q1 p2 p3 p4)), .second, .val (.int (own_e (own_d2 q1 p2 p3 p4) (own_sh (own_b q1)))), .val (.int (own_e (own_h2 q1 p2 p3 p4) (own_b q1 - own_b q1 / (4 : Int64)))), .val (.int (own_k q1 p2 p3 p4)), .val (.int (own_rz (own_b q1) (own_d2 q1 p2 p3 p4) (0 : Int32) ((own_k q1 p2 p3 p4) + (1 : Int32)))), .val (.int (own_rz (own_b q1) (own_d3 q1 p2 p3 p4) (0 : Int32) (own_k q1 p2 p3 p4)))] [(.int (1 : Int32))])) _
    exact retN X13 hx (t := .boolean) Bd.returns (by simp) (hb hby at_241) hr
  · show Q_rm0 Z q1 p2 p3 p4 h0 n0 _ T13.heap _
    exact ⟨rfl, N13⟩
set_option maxRecDepth 65536 in
set_option maxHeartbeats 40000000 in
theorem comes_1 {Post : Tables → Env → Array Value → State → Outcome → State → Prop} (hpost : ∀ tb e args s v u, (limb_1_1.after args s (.returned v) u = true ∧ limb_1_2.after args s (.returned v) u = true ∧ True) → FrameEnd s (.returned v) u (Jvm.fieldLocs frame_1_writes args s ++ Jvm.arrayLocs frame_1_arrays args s ++ Jvm.staticLocs frame_1_statics s) 16 128 → Post tb e args s (.returned v) u) :
    ArmFor flags0 classFile x code maxLocals ret World_1 tables_1 room_1 Calls_1 rest_1 Pre_1 Post := by
  intro l hfl _ _ p e ha hc hk s m args below hf hA hF happ hP
  obtain ⟨hcalls, hrest, hpre⟩ := hP
  obtain ⟨-, -, -, hnamed, -, -, -, hat⟩ := (Spec.applies_iff hf).mp happ
  obtain ⟨hg, hn⟩ := and_e (Cond.before_iff.mp (show (Jvm.Cond.and given_1 narrow_1).before args s = true from hpre))
  obtain ⟨hcount, hga0⟩ := and_e hg
  obtain ⟨hi0, hga1⟩ := and_e hga0
  obtain ⟨hi1, hga2⟩ := and_e hga1
  obtain ⟨hi2, hga3⟩ := and_e hga2
  have hi3 := hga3
  obtain ⟨w0, w1, w2, w3, rfl⟩ : ∃ w0 w1 w2 w3 : Value, args = #[w0, w1, w2, w3] := by
    have hs : args.size = 4 := by simpa [Cond.value, given_1] using hcount
    obtain ⟨L⟩ := args
    match L, hs with
    | [w0, w1, w2, w3], _ => exact ⟨w0, w1, w2, w3, rfl⟩
  have hw := fun d (hd : d ∈ tables_1) => atoms_spec (ws := Jvm.Cond.code x code maxLocals ret :: tables_1) hat d (List.mem_cons_of_mem _ hd)
  obtain ⟨i0, ei0⟩ := isL_v hi0
  obtain rfl : w0 = (.long i0) := Option.some.inj ei0
  obtain ⟨i1, ei1⟩ := is_v hi1
  obtain rfl : w1 = (.int i1) := Option.some.inj ei1
  obtain ⟨i2, ei2⟩ := is_v hi2
  obtain rfl : w2 = (.int i2) := Option.some.inj ei2
  obtain ⟨i3, ei3⟩ := is_v hi3
  obtain rfl : w3 = (.int i3) := Option.some.inj ei3
  obtain ⟨n, o, h1, h2, h3, _, L, rfl, ⟨rfl, N⟩, hq⟩ := rm0 l s _ hw tables_1 i0 i1 i2 i3  s.heap s.heap.size (Nat.le_refl _)  p e ha hc hk s m _ below hf ((Spec.applies_iff_loose hf).mp happ).1 ⟨rfl, State.Warmed39.refl s, rfl⟩ trivial
  refine ⟨n, _, h1, h2, h3, hpost _ _ _ _ _ _ ⟨Cond.after_iff.mpr rfl, Cond.after_iff.mpr (eq_i res_at (Term.int_eval (1)) rfl), trivial⟩ ⟨hq.1, hq.2.1, (hq.2.2.sift fun y hy => Or.inr (N y hy)).mono (by decide) (by decide)⟩⟩
theorem main_1_1 : Claimed_1_1 := comes_1 fun _ _ _ _ _ _ h hF => ⟨h.1, hF⟩
theorem main_1_2 : Claimed_1_2 := comes_1 fun _ _ _ _ _ _ h hF => ⟨h.2.1, hF⟩
end Jvm.Pilot.@@N@@
namespace Jvm.Pilot.@@N@@
open Jvm Jvm.ClassFile Sem Op Lib Jvm.Free Jvm.Stand Jvm.Pilot.@@N@@.Jvm.D
/-! MADE BY PROGRAM (witnessworld.py) out of the Statement's table words and the real class files: 10 classes; the members and pool entries that the words name. The judged class is class 1, her method 1. -/
namespace start1
open Jvm.ClassFile
def u (s : String) : CpInfo := .utf8 (stringToUtf16 s)
/-- a pool by its gaps: so many unusable entries, then the entry; so many at the end -/
def gap : Nat → List CpInfo → List CpInfo
  | 0, r => r
  | n + 1, r => .unusable :: gap n r
def poolList (es : List (Nat × CpInfo)) (last : Nat) : List CpInfo := es.foldr (fun e r => gap e.1 (e.2 :: r)) (gap last [])
def pool (es : List (Nat × CpInfo)) (last : Nat) : Array CpInfo := ⟨poolList es last⟩
def fileOf (pool : Array CpInfo) (this : Nat) (attrs : Array Attribute := #[]) (ms : Array MethodInfo := #[]) (fl : Nat := 33) (sup : Nat := 0) (ifs : Array Nat := #[]) (fds : Array FieldInfo := #[]) : ClassFile where
  minorVersion := 0
  majorVersion := 65
  constantPool := pool
  accessFlags := fl
  thisClass := this
  superClass := sup
  interfaces := ifs
  fields := fds
  methods := ms
  attributes := attrs
def plain (name : String) (sup : Option ClassId) : Class where
  name := name
  kind := .ordinary
  loader := none
  accessFlags := 33
  super := sup
  interfaces := #[]
  cf := none
  fields := #[]
  methods := #[]
  instanceTypes := #[]
  staticTypes := #[]
  resolved := #[]
  callSites := []
  init := .initialized
  statics := none
  mirror := none

def pool0 : Array CpInfo := pool [(5, u "<init>"), (0, u "()V"), (1, .class_ 10), (1, u "java/lang/Object")] 113

def k0c0 : Code := { maxStack := 0, maxLocals := 1, code := object_method_1_code, exceptionTable := #[], attributes := #[] }
def k0m0 : Method := { name := "<init>", desc := "()V", sig := { parameters := [], returnType := none }, accessFlags := 1, code := some k0c0 }
/-- java/lang/Object -/
def k0 : Class := { plain "java/lang/Object" none with
  accessFlags := 33
  interfaces := #[]
  cf := some (fileOf pool0 8 #[] #[{ accessFlags := 1, nameIndex := 5, descriptorIndex := 6, attributes := #[] }] 33 0 #[] #[])
  fields := #[]
  methods := #[k0m0]
  instanceTypes := #[]
  staticTypes := #[]
  resolved := Array.replicate 124 none
  statics := none }

def pool1 : Array CpInfo := pool [(2, .class_ 4), (1, u "java/lang/Object"), (0, u "<init>"), (0, u "()V"), (0, .long 2147483647), (1, .long 2147483646), (1, .methodref 12 13), (0, .class_ 14), (0, .nameAndType 15 16), (0, u "java/lang/Math"), (0, u "min"), (0, u "(JJ)J"), (0, .class_ 18), (0, u "com/example/mountwright/mountwright/server/RequestBudget"), (0, .methodref 17 20), (0, .nameAndType 5 21), (0, u "(J)V"), (0, .integer 2147483647), (0, .methodref 17 24), (0, .nameAndType 25 26), (0, u "resize"), (0, u "(II)Z"), (0, .methodref 17 28), (0, .nameAndType 29 30), (0, u "admitsArriving"), (0, u "()Z"), (0, .long 4), (1, .class_ 34), (0, u "com/example/mountwright/mountwright/server/RequestBudgetResizePinLaw"), (2, u "law"), (0, u "(JIII)Z")] 3

def k1m0 : Method := { name := "<init>", desc := "()V", sig := { parameters := [], returnType := none }, accessFlags := 1, code := none }
def k1c1 : Code := { maxStack := 8, maxLocals := 26, code := code, exceptionTable := #[], attributes := #[] }
def k1m1 : Method := { name := "law", desc := "(JIII)Z", sig := { parameters := [.long, .int, .int, .int], returnType := some .boolean }, accessFlags := 9, code := some k1c1 }
/-- com/example/mountwright/mountwright/server/RequestBudgetResizePinLaw -/
def k1 : Class := { plain "com/example/mountwright/mountwright/server/RequestBudgetResizePinLaw" (some 0) with
  accessFlags := 49
  interfaces := #[]
  cf := some (fileOf pool1 33 #[] #[{ accessFlags := 1, nameIndex := 5, descriptorIndex := 6, attributes := #[] }, { accessFlags := 9, nameIndex := 37, descriptorIndex := 38, attributes := #[] }] 49 2 #[] #[])
  fields := #[]
  methods := #[k1m0, k1m1]
  instanceTypes := #[]
  staticTypes := #[]
  resolved := Array.replicate 42 none
  statics := none }

def pool2 : Array CpInfo := pool [(1, .class_ 2), (0, u "java/lang/Math"), (1, .class_ 6), (1, u "java/lang/Object"), (0, u "<init>"), (0, u "()V"), (89, .class_ 100), (1, u "java/lang/Math$RandomNumberGeneratorHolder"), (20, u "(JJ)J"), (50, u "negativeZeroFloatBits"), (0, u "J"), (2, u "negativeZeroDoubleBits"), (24, u "min"), (43, u "$assertionsDisabled"), (0, u "Z"), (91, u "twoToTheDoubleScaleDown"), (0, u "D"), (4, u "twoToTheDoubleScaleUp"), (9, u "E"), (3, u "PI"), (2, u "TAU"), (2, u "DEGREES_TO_RADIANS"), (0, u "RADIANS_TO_DEGREES")] 94

def k2m0 : Method := { name := "<init>", desc := "()V", sig := { parameters := [], returnType := none }, accessFlags := 2, code := none }
def k2c1 : Code := { maxStack := 4, maxLocals := 4, code := jdk_29_method_70_code, exceptionTable := #[], attributes := #[] }
def k2m1 : Method := { name := "min", desc := "(JJ)J", sig := { parameters := [.long, .long], returnType := some .long }, accessFlags := 9, code := some k2c1 }
/-- java/lang/Math -/
def k2 : Class := { plain "java/lang/Math" (some 0) with
  accessFlags := 49
  interfaces := #[]
  cf := some (fileOf pool2 1 #[.nestMembers #[98]] #[{ accessFlags := 2, nameIndex := 7, descriptorIndex := 8, attributes := #[] }, { accessFlags := 9, nameIndex := 201, descriptorIndex := 121, attributes := #[] }] 49 4 #[] #[{ accessFlags := 25, nameIndex := 354, descriptorIndex := 339, attributes := #[] }, { accessFlags := 25, nameIndex := 358, descriptorIndex := 339, attributes := #[] }, { accessFlags := 25, nameIndex := 361, descriptorIndex := 339, attributes := #[] }, { accessFlags := 26, nameIndex := 364, descriptorIndex := 339, attributes := #[] }, { accessFlags := 26, nameIndex := 365, descriptorIndex := 339, attributes := #[] }, { accessFlags := 26, nameIndex := 172, descriptorIndex := 173, attributes := #[] }, { accessFlags := 26, nameIndex := 176, descriptorIndex := 173, attributes := #[] }, { accessFlags := 8, nameIndex := 344, descriptorIndex := 339, attributes := #[] }, { accessFlags := 8, nameIndex := 338, descriptorIndex := 339, attributes := #[] }, { accessFlags := 4120, nameIndex := 245, descriptorIndex := 246, attributes := #[] }])
  fields := #[{ name := "E", type := .double, accessFlags := 25, slot := 0, constantValue := 0 }, { name := "PI", type := .double, accessFlags := 25, slot := 1, constantValue := 0 }, { name := "TAU", type := .double, accessFlags := 25, slot := 2, constantValue := 0 }, { name := "DEGREES_TO_RADIANS", type := .double, accessFlags := 26, slot := 3, constantValue := 0 }, { name := "RADIANS_TO_DEGREES", type := .double, accessFlags := 26, slot := 4, constantValue := 0 }, { name := "negativeZeroFloatBits", type := .long, accessFlags := 26, slot := 5, constantValue := 0 }, { name := "negativeZeroDoubleBits", type := .long, accessFlags := 26, slot := 6, constantValue := 0 }, { name := "twoToTheDoubleScaleUp", type := .double, accessFlags := 8, slot := 7, constantValue := 0 }, { name := "twoToTheDoubleScaleDown", type := .double, accessFlags := 8, slot := 8, constantValue := 0 }, { name := "$assertionsDisabled", type := .boolean, accessFlags := 4120, slot := 9, constantValue := 0 }]
  methods := #[k2m0, k2m1]
  instanceTypes := #[]
  staticTypes := #[.double, .double, .double, .double, .double, .long, .long, .double, .double, .boolean]
  resolved := Array.replicate 460 none
  statics := none }

def pool3 : Array CpInfo := pool [(1, .methodref 2 3), (0, .class_ 4), (0, .nameAndType 5 6), (0, u "java/lang/Object"), (0, u "<init>"), (0, u "()V"), (0, .fieldref 8 9), (0, .class_ 10), (0, .nameAndType 11 12), (0, u "com/example/mountwright/mountwright/server/RequestBudget"), (0, u "bound"), (0, u "J"), (0, .methodref 8 14), (0, .nameAndType 15 16), (0, u "arrivingShare"), (0, u "(J)J"), (0, .fieldref 8 18), (0, .nameAndType 15 12), (0, .long 4), (1, .fieldref 8 22), (0, .nameAndType 23 12), (0, u "held"), (2, u "resize"), (0, u "(II)Z"), (0, u "(J)V"), (5, u "admitsArriving"), (0, u "()Z")] 2

def k3c0 : Code := { maxStack := 3, maxLocals := 3, code := prog_50_method_1_code, exceptionTable := #[], attributes := #[] }
def k3m0 : Method := { name := "<init>", desc := "(J)V", sig := { parameters := [.long], returnType := none }, accessFlags := 0, code := some k3c0 }
def k3c1 : Code := { maxStack := 6, maxLocals := 2, code := prog_50_method_2_code, exceptionTable := #[], attributes := #[] }
def k3m1 : Method := { name := "arrivingShare", desc := "(J)J", sig := { parameters := [.long], returnType := some .long }, accessFlags := 8, code := some k3c1 }
def k3c2 : Code := { maxStack := 6, maxLocals := 5, code := prog_50_method_3_code, exceptionTable := #[], attributes := #[] }
def k3m2 : Method := { name := "resize", desc := "(II)Z", sig := { parameters := [.int, .int], returnType := some .boolean }, accessFlags := 0, code := some k3c2 }
def k3c3 : Code := { maxStack := 4, maxLocals := 1, code := prog_50_method_5_code, exceptionTable := #[], attributes := #[] }
def k3m3 : Method := { name := "admitsArriving", desc := "()Z", sig := { parameters := [], returnType := some .boolean }, accessFlags := 0, code := some k3c3 }
/-- com/example/mountwright/mountwright/server/RequestBudget -/
def k3 : Class := { plain "com/example/mountwright/mountwright/server/RequestBudget" (some 0) with
  accessFlags := 48
  interfaces := #[]
  cf := some (fileOf pool3 8 #[] #[{ accessFlags := 0, nameIndex := 5, descriptorIndex := 28, attributes := #[] }, { accessFlags := 8, nameIndex := 15, descriptorIndex := 16, attributes := #[] }, { accessFlags := 0, nameIndex := 26, descriptorIndex := 27, attributes := #[] }, { accessFlags := 0, nameIndex := 34, descriptorIndex := 35, attributes := #[] }] 48 2 #[] #[{ accessFlags := 18, nameIndex := 11, descriptorIndex := 12, attributes := #[] }, { accessFlags := 18, nameIndex := 15, descriptorIndex := 12, attributes := #[] }, { accessFlags := 2, nameIndex := 23, descriptorIndex := 12, attributes := #[] }])
  fields := #[{ name := "bound", type := .long, accessFlags := 18, slot := 0, constantValue := 0 }, { name := "arrivingShare", type := .long, accessFlags := 18, slot := 1, constantValue := 0 }, { name := "held", type := .long, accessFlags := 2, slot := 2, constantValue := 0 }]
  methods := #[k3m0, k3m1, k3m2, k3m3]
  instanceTypes := #[.long, .long, .long]
  staticTypes := #[]
  resolved := Array.replicate 38 none
  statics := none }

def pool4 : Array CpInfo := pool [(1, u "java/lang/Cloneable"), (0, .class_ 1), (0, u "java/lang/Object"), (0, .class_ 3)] 3

/-- java/lang/Cloneable -/
def k4 : Class := { plain "java/lang/Cloneable" (some 0) with
  accessFlags := 1537
  interfaces := #[]
  cf := some (fileOf pool4 2 #[] #[] 1537 4 #[] #[])
  fields := #[]
  methods := #[]
  instanceTypes := #[]
  staticTypes := #[]
  resolved := Array.replicate 8 none
  statics := none }

def pool5 : Array CpInfo := pool [(1, u "java/io/Serializable"), (0, .class_ 1), (0, u "java/lang/Object"), (0, .class_ 3)] 3

/-- java/io/Serializable -/
def k5 : Class := { plain "java/io/Serializable" (some 0) with
  accessFlags := 1537
  interfaces := #[]
  cf := some (fileOf pool5 2 #[] #[] 1537 4 #[] #[])
  fields := #[]
  methods := #[]
  instanceTypes := #[]
  staticTypes := #[]
  resolved := Array.replicate 8 none
  statics := none }

/-- the primitive byte -/
def k6 : Class := { plain "byte" none with kind := .primitive 'B', accessFlags := 0x411 }
/-- [B -/
def k7 : Class := { plain "[B" (some 0) with kind := .array 6 .byte, interfaces := #[4, 5], accessFlags := 1041 }

/-- the primitive int -/
def k8 : Class := { plain "int" none with kind := .primitive 'I', accessFlags := 0x411 }
/-- [I -/
def k9 : Class := { plain "[I" (some 0) with kind := .array 8 .int, interfaces := #[4, 5], accessFlags := 1041 }

def heap : Heap := #[]
def classes : Array Class := #[k0, k1, k2, k3, k4, k5, k6, k7, k8, k9]
def interned : List (Array UInt16 × Addr) := []
def slotsUsed : Nat := 0
def theMethod : MethodId := ⟨1, 1⟩
def args0 : Array Value := #[.long 5, .int 7, .int 3, .int 4]
def aboutOver (below : List Frame) : State where
  vm := { classes := classes, interned := interned.toArray }
  heap := heap
  slotsUsed := slotsUsed
  threads := #[{ frames := .invoking theMethod args0 :: below }]
def below0 : List Frame := [.native { method := ⟨0, 0⟩, args := #[] }]
def about1 : State := aboutOver below0
def p0 : Program := .bare "" "" ""
def e0 : Env := launch0.env 0 0 0
theorem w_frames : about1.frames = Frame.invoking theMethod args0 :: below0 := rfl
set_option maxRecDepth 65536 in
theorem w_args : argsFit about1.vm theMethod args0 = true := by decide +kernel
set_option maxRecDepth 65536 in
theorem w_heap : heapFits about1 = true := by decide +kernel
set_option maxRecDepth 65536 in
theorem w_runnable : about1.curStatus? = some .runnable := by decide +kernel
set_option maxRecDepth 65536 in
theorem w_alone : about1.alone = true := by decide +kernel
set_option maxRecDepth 65536 in
theorem w_named : about1.methodNamed? x = some theMethod := by decide +kernel
set_option maxRecDepth 65536 in
theorem w_hears : about1.hears theMethod below0 = true := by decide +kernel
set_option maxRecDepth 65536 in
theorem w_ripe : about1.ripe theMethod args0 below0 = true := by decide +kernel
theorem w_running : about1.status = .running := rfl
set_option maxRecDepth 65536 in
theorem w_room : about1.hasRoom e0.platform room_1 = true :=
  launch0.hasRoom_least _ room_1 (by decide +kernel) (by decide +kernel) (by decide +kernel) (by decide +kernel) (by decide +kernel) (by decide +kernel)
theorem allAtoms_all (ts : List Jvm.Cond) (a : Array Jvm.Value) (st : Jvm.State) : (allAtoms ts).before a st = ts.all (fun c => c.before a st) := by
  induction ts with
  | nil => rfl
  | cons c t ih =>
    show (Jvm.Cond.and c (allAtoms t)).before a st = _
    rw [Jvm.Cond.before_and, ih, List.all_cons]
def words1 : List Jvm.Cond := Jvm.Cond.code x code maxLocals ret :: tables_1
/-- a 'code' word, met by the world's own term for the bytes: nothing is compared byte by byte -/
theorem code_word {y : MethodName} {bytes : ByteArray} {mx : Nat} {rt : Option FieldType} {a : Array Value} {s : State} {m : MethodId} {meth : Method} {c : Code} (h1 : s.methodNamed? y = some m) (h2 : s.vm.method? m = some meth) (h3 : meth.code = some c) (h4 : c.code = bytes)
    (h5 : (c.maxLocals == mx && c.exceptionTable.isEmpty && decide (c.maxStack ≤ mostOperands) && decide (meth.sig.returnType = rt) && !meth.locks && decide (parseMethodDescriptor y.desc = some meth.sig)) = true) : (Jvm.Cond.code y bytes mx rt).before a s = true := by
  simp only [Bool.and_eq_true, beq_iff_eq, Bool.not_eq_true', decide_eq_true_eq] at h5
  obtain ⟨⟨⟨⟨⟨g1, g2⟩, g3⟩, g4⟩, g5⟩, g6⟩ := h5
  simp [Cond.before, Cond.holds, Cond.value, h1, h2, h3, h4, g1, g2, g3, g4, g5, g6]
def isCode : Jvm.Cond → Bool
  | .code _ _ _ _ => true
  | _ => false
theorem all_split {L : List Jvm.Cond} {P : Jvm.Cond → Bool} (h1 : L.all (fun c => isCode c || P c) = true) (h2 : ∀ c ∈ L.filter isCode, P c = true) : L.all P = true := by
  refine List.all_eq_true.mpr fun c hc => ?_
  have h := List.all_eq_true.mp h1 c hc
  rcases Bool.eq_false_or_eq_true (isCode c) with hi | hi
  · exact h2 c (List.mem_filter.mpr ⟨hc, hi⟩)
  · simpa [hi] using h
set_option maxRecDepth 65536 in
theorem w_c0 : (Jvm.Cond.code x code maxLocals ret).before args0 about1 = true := code_word (m := ⟨1, 1⟩) (meth := k1m1) (c := k1c1) (by decide +kernel) rfl rfl rfl (by decide +kernel)
set_option maxRecDepth 65536 in
theorem w_c1 : (Jvm.Cond.code ({ cls := "java/lang/Math", name := "min", desc := "(JJ)J" } : Jvm.MethodName) jdk_29_method_70_code (4 : Nat) (Option.some Jvm.ClassFile.FieldType.long)).before args0 about1 = true := code_word (m := ⟨2, 1⟩) (meth := k2m1) (c := k2c1) (by decide +kernel) rfl rfl rfl (by decide +kernel)
set_option maxRecDepth 65536 in
theorem w_c2 : (Jvm.Cond.code ({ cls := "com/example/mountwright/mountwright/server/RequestBudget", name := "<init>", desc := "(J)V" } : Jvm.MethodName) prog_50_method_1_code (3 : Nat) (Option.none : Option Jvm.ClassFile.FieldType)).before args0 about1 = true := code_word (m := ⟨3, 0⟩) (meth := k3m0) (c := k3c0) (by decide +kernel) rfl rfl rfl (by decide +kernel)
set_option maxRecDepth 65536 in
theorem w_c3 : (Jvm.Cond.code ({ cls := "java/lang/Object", name := "<init>", desc := "()V" } : Jvm.MethodName) object_method_1_code (1 : Nat) (Option.none : Option Jvm.ClassFile.FieldType)).before args0 about1 = true := code_word (m := ⟨0, 0⟩) (meth := k0m0) (c := k0c0) (by decide +kernel) rfl rfl rfl (by decide +kernel)
set_option maxRecDepth 65536 in
theorem w_c4 : (Jvm.Cond.code ({ cls := "com/example/mountwright/mountwright/server/RequestBudget", name := "arrivingShare", desc := "(J)J" } : Jvm.MethodName) prog_50_method_2_code (2 : Nat) (Option.some Jvm.ClassFile.FieldType.long)).before args0 about1 = true := code_word (m := ⟨3, 1⟩) (meth := k3m1) (c := k3c1) (by decide +kernel) rfl rfl rfl (by decide +kernel)
set_option maxRecDepth 65536 in
theorem w_c5 : (Jvm.Cond.code ({ cls := "com/example/mountwright/mountwright/server/RequestBudget", name := "resize", desc := "(II)Z" } : Jvm.MethodName) prog_50_method_3_code (5 : Nat) (Option.some Jvm.ClassFile.FieldType.boolean)).before args0 about1 = true := code_word (m := ⟨3, 2⟩) (meth := k3m2) (c := k3c2) (by decide +kernel) rfl rfl rfl (by decide +kernel)
set_option maxRecDepth 65536 in
theorem w_c6 : (Jvm.Cond.code ({ cls := "com/example/mountwright/mountwright/server/RequestBudget", name := "admitsArriving", desc := "()Z" } : Jvm.MethodName) prog_50_method_5_code (1 : Nat) (Option.some Jvm.ClassFile.FieldType.boolean)).before args0 about1 = true := code_word (m := ⟨3, 3⟩) (meth := k3m3) (c := k3c3) (by decide +kernel) rfl rfl rfl (by decide +kernel)
def codes1 : List Jvm.Cond := [Jvm.Cond.code x code maxLocals ret, Jvm.Cond.code ({ cls := "java/lang/Math", name := "min", desc := "(JJ)J" } : Jvm.MethodName) jdk_29_method_70_code (4 : Nat) (Option.some Jvm.ClassFile.FieldType.long), Jvm.Cond.code ({ cls := "com/example/mountwright/mountwright/server/RequestBudget", name := "<init>", desc := "(J)V" } : Jvm.MethodName) prog_50_method_1_code (3 : Nat) (Option.none : Option Jvm.ClassFile.FieldType), Jvm.Cond.code ({ cls := "java/lang/Object", name := "<init>", desc := "()V" } : Jvm.MethodName) object_method_1_code (1 : Nat) (Option.none : Option Jvm.ClassFile.FieldType), Jvm.Cond.code ({ cls := "com/example/mountwright/mountwright/server/RequestBudget", name := "arrivingShare", desc := "(J)J" } : Jvm.MethodName) prog_50_method_2_code (2 : Nat) (Option.some Jvm.ClassFile.FieldType.long), Jvm.Cond.code ({ cls := "com/example/mountwright/mountwright/server/RequestBudget", name := "resize", desc := "(II)Z" } : Jvm.MethodName) prog_50_method_3_code (5 : Nat) (Option.some Jvm.ClassFile.FieldType.boolean), Jvm.Cond.code ({ cls := "com/example/mountwright/mountwright/server/RequestBudget", name := "admitsArriving", desc := "()Z" } : Jvm.MethodName) prog_50_method_5_code (1 : Nat) (Option.some Jvm.ClassFile.FieldType.boolean)]
set_option maxRecDepth 65536 in
theorem codes_eq : words1.filter isCode = codes1 := rfl
theorem w_codes : ∀ c ∈ words1.filter isCode, c.before args0 about1 = true := by
  rw [codes_eq]
  intro c hc
  simp only [codes1, List.mem_cons, List.not_mem_nil, or_false] at hc
  rcases hc with rfl | rfl | rfl | rfl | rfl | rfl | rfl
  · exact w_c0
  · exact w_c1
  · exact w_c2
  · exact w_c3
  · exact w_c4
  · exact w_c5
  · exact w_c6
set_option maxRecDepth 65536 in
theorem w_t1 : (words1.take 24).all (fun c => isCode c || c.before args0 about1) = true := by decide +kernel
set_option maxRecDepth 65536 in
theorem w_t2 : (words1.drop 24).all (fun c => isCode c || c.before args0 about1) = true := by decide +kernel
theorem w_tables : (allAtoms (Jvm.Cond.code x code maxLocals ret :: tables_1)).before args0 about1 = true := by
  rw [allAtoms_all]
  show words1.all (fun c => c.before args0 about1) = true
  refine all_split ?_ w_codes
  rw [← List.take_append_drop 24 words1, List.all_append, w_t1, w_t2]
  rfl
set_option maxRecDepth 65536 in
theorem w_case : (Jvm.Cond.and given_1 narrow_1).before args0 about1 = true := by decide +kernel
theorem w_applies : (headSpec (Jvm.Cond.code x code maxLocals ret :: tables_1) room_1).applies x e0.platform about1 = true :=
  (Spec.applies_iff w_frames).mpr ⟨w_running, w_runnable, w_alone, w_named, w_hears, w_ripe, w_room, w_tables⟩
theorem atStart : AtStart classFile x code maxLocals ret World_1 tables_1 room_1 Calls_1 rest_1 Pre_1 launch0 p0 e0 about1 theMethod args0 below0 :=
  ⟨lists_1, trivial, launch0.admits_env _ _ _, launch0.least_env, fairChoices_fair.cas, fairChoices_fair.clock, w_frames, w_args, w_heap, w_applies, trivial, trivial, w_case⟩
end start1
theorem witness_1 : WitnessClaimed_1 := ⟨start1.p0, start1.e0, start1.about1, start1.theMethod, start1.args0, start1.below0, start1.atStart⟩
end Jvm.Pilot.@@N@@
