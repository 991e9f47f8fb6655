import JvmDerived
import JvmDerived.Pilot.@@N@@Statement
import JvmDerived.Pilot.@@N@@Code
set_option linter.unusedVariables false
set_option linter.unusedSimpArgs false
namespace Jvm.RoadKit
open Sem ClassFile Op Lib Jvm.Stand Jvm.Free Jvm.LawKit
section New
variable {p : Program} {l : Launch} {e : Env} {R : Room} {s : State} {m : MethodId} {args : Array Value} {below : List Frame} {meth : Method} {c : Code} {T : State} {locs : List Loc} {cells slots : Nat}
theorem retI (X : Stand p l e R s m args below meth c T locs cells slots) (hx : p.tables.exec = Jvm.exec) {pc : Nat} {Ls : Array Slot} {z : Int32} {rest : List Value} (hret : meth.sig.returnType = some .int) (hd : decode c.code pc = .ok (.ireturn, 1)) {fs : List Frame}
    (hl : ∀ (f : JFrame) (acts : List Action), f.method = m → f.locked = none → f.entered = [] → (doReturn e (T.setTop f) acts (some (.int z))).1 = T.setFrames fs) : Steps p.tables e below (T.setTop (mkF m pc Ls (.int z :: rest))) (T.setFrames fs) := by
  have hm' : T.vm.method? m = some meth := X.method'
  have hn : narrow .int (.int z) = .int z := rfl
  show Steps p.tables e below (T.setTop { method := m, pc := pc, locals := Ls, stack := _ :: rest, locked := none }) _
  jvm_step X.here [X.here.top, hx, hd, hm', hret, hn]
  first | (intro acts; rw [hl _ acts rfl rfl rfl]) | rw [hl _ _ rfl rfl rfl]
  exact Steps.refl _
theorem retD (X : Stand p l e R s m args below meth c T locs cells slots) (hx : p.tables.exec = Jvm.exec) {pc : Nat} {Ls : Array Slot} {z : UInt64} {rest : List Value} (hret : meth.sig.returnType = some .double) (hd : decode c.code pc = .ok (.dreturn, 1)) {fs : List Frame}
    (hl : ∀ (f : JFrame) (acts : List Action), f.method = m → f.locked = none → f.entered = [] → (doReturn e (T.setTop f) acts (some (.double z))).1 = T.setFrames fs) : Steps p.tables e below (T.setTop (mkF m pc Ls (.double z :: rest))) (T.setFrames fs) := by
  have hm' : T.vm.method? m = some meth := X.method'
  have hn : narrow .double (.double z) = .double z := rfl
  show Steps p.tables e below (T.setTop { method := m, pc := pc, locals := Ls, stack := _ :: rest, locked := none }) _
  jvm_step X.here [X.here.top, hx, hd, hm', hret, hn]
  first | (intro acts; rw [hl _ acts rfl rfl rfl]) | rw [hl _ _ rfl rfl rfl]
  exact Steps.refl _
end New
end Jvm.RoadKit
namespace Jvm.Pilot.@@N@@
open Jvm Jvm.ClassFile Sem Op Lib Jvm.Free Jvm.Stand Jvm.LawKit Jvm.RoadKit Bundle Jvm.Pilot.@@N@@.Jvm.D
def own_fr (r t : Int64) : UInt64 := FP.ddiv (FP.l2d t) (FP.l2d r)
section OwnF
open Jvm.FP.Core
theorem own_pow_cancel {x y k : Nat} (h : x * 2 ^ k = y * 2 ^ k) : x = y := Nat.eq_of_mul_eq_mul_right (Nat.two_pow_pos k) h
theorem own_between {a a' x y B B' : Nat} (hB : 0 < B) (hB' : 0 < B') (h : a * B' ≤ a' * B) (c1 : y * B < a) (c2 : a' < x * B')
    (n1 : ((a : Int) - (x : Int) * (B : Int)).natAbs ≤ ((a : Int) - (y : Int) * (B : Int)).natAbs)
    (n2 : ((a' : Int) - (y : Int) * (B' : Int)).natAbs ≤ ((a' : Int) - (x : Int) * (B' : Int)).natAbs) : a * B' = a' * B := by
  have d1 : a < x * B := by
    apply Nat.lt_of_mul_lt_mul_right (a := B')
    calc a * B' ≤ a' * B := h
      _ < x * B' * B := Nat.mul_lt_mul_of_pos_right c2 hB
      _ = x * B * B' := Nat.mul_right_comm _ _ _
  have d2 : y * B' < a' := by
    apply Nat.lt_of_mul_lt_mul_right (a := B)
    calc y * B' * B = y * B * B' := Nat.mul_right_comm _ _ _
      _ < a * B' := Nat.mul_lt_mul_of_pos_right c1 hB'
      _ ≤ a' * B := h
  have m1 : x * B + y * B ≤ 2 * a := by
    rw [← Int.natCast_mul, ← Int.natCast_mul] at n1
    omega
  have m2 : 2 * a' ≤ x * B' + y * B' := by
    rw [← Int.natCast_mul, ← Int.natCast_mul] at n2
    omega
  have k1 : (x * B + y * B) * B' ≤ 2 * a * B' := Nat.mul_le_mul_right _ m1
  have k2 : 2 * a' * B ≤ (x * B' + y * B') * B := Nat.mul_le_mul_right _ m2
  have k3 : (x * B + y * B) * B' = (x * B' + y * B') * B := by
    rw [Nat.add_mul, Nat.add_mul, Nat.mul_right_comm x, Nat.mul_right_comm y]
  rw [k3] at k1
  rw [Nat.mul_assoc] at k1 k2
  omega
theorem own_ucongr {A B A' B' : Nat} {e e' e0 : Int} (h0 : e0 ≤ e) (h0' : e0 ≤ e') (h : inUnits A e e0 * B' = inUnits A' e' e0 * B) :
    A * B' * 2 ^ (e - e').toNat = A' * B * 2 ^ (e' - e).toNat := by
  apply own_pow_cancel (k := (min e e' - e0).toNat)
  unfold inUnits at h
  have e1 : (e - e').toNat + (min e e' - e0).toNat = (e - e0).toNat := by omega
  have e2 : (e' - e).toNat + (min e e' - e0).toNat = (e' - e0).toNat := by omega
  calc A * B' * 2 ^ (e - e').toNat * 2 ^ (min e e' - e0).toNat = A * 2 ^ ((e - e').toNat + (min e e' - e0).toNat) * B' := by rw [Nat.pow_add]; ac_rfl
    _ = A' * 2 ^ ((e' - e).toNat + (min e e' - e0).toNat) * B := by rw [e1, e2]; exact h
    _ = A' * B * 2 ^ (e' - e).toNat * 2 ^ (min e e' - e0).toNat := by rw [Nat.pow_add]; ac_rfl
theorem own_rmono {s : Bool} {A B A' B' c c' : Nat} {e e' q q' e0 : Int} (hB : 0 < B) (hB' : 0 < B') (h0 : e0 ≤ b64.qmin) (h0e : e0 ≤ e) (h0e' : e0 ≤ e')
    (hX : roundRatio b64 s A B e = .fin s c q) (hY : roundRatio b64 s A' B' e' = .fin s c' q')
    (h : inUnits A e e0 * B' ≤ inUnits A' e' e0 * B) : inUnits c q b64.qmin ≤ inUnits c' q' b64.qmin := by
  apply Nat.le_of_not_lt
  intro hlt
  have fX : FP.Core.fits b64 (.fin s c q) := hX ▸ roundRatio_fits good_b64 s A hB e
  have fY : FP.Core.fits b64 (.fin s c' q') := hY ▸ roundRatio_fits good_b64 s A' hB' e'
  have uX : inUnits c q e0 = inUnits c q b64.qmin * 2 ^ (b64.qmin - e0).toNat := units_fin fX h0
  have uY : inUnits c' q' e0 = inUnits c' q' b64.qmin * 2 ^ (b64.qmin - e0).toNat := units_fin fY h0
  have c1 : inUnits c' q' e0 * B < inUnits A e e0 := by
    apply Nat.lt_of_not_le
    intro hh
    have := zmag_roundRatio_le good_b64 (s := s) (A := A) (B := B) (e := e) (e0 := e0) (V := .fin s c' q') hB fY Datum.noConfusion h0 h0e (by
      show inUnits A e e0 ≤ inUnits c' q' b64.qmin * _ * B
      rw [← uY]; exact hh)
    rw [hX] at this
    exact absurd hlt (Nat.not_lt.mpr this)
  have c2 : inUnits A' e' e0 < inUnits c q e0 * B' := by
    apply Nat.lt_of_not_le
    intro hh
    have := zmag_roundRatio_ge good_b64 (s := s) (A := A') (B := B') (e := e') (e0 := e0) (V := .fin s c q) hB' fX h0 h0e' (by
      show inUnits c q b64.qmin * _ * B' ≤ inUnits A' e' e0
      rw [← uX]; exact hh)
    rw [hY] at this
    exact absurd hlt (Nat.not_lt.mpr this)
  have n1 := roundRatio_nearest good_b64 hB hX fY.1 fY.2.1 h0 h0e
  have n2 := roundRatio_nearest good_b64 hB' hY fX.1 fX.2.1 h0 h0e'
  have heq := own_between hB hB' h c1 c2 n1 n2
  have hXY := roundRatio_congr (f := b64) (s := s) hB hB' (own_ucongr h0e h0e' heq)
  rw [hX, hY] at hXY
  injection hXY with _ hc hq
  subst hc hq
  exact Nat.lt_irrefl _ hlt
theorem own_q0 : b64.qmin ≤ 0 := by decide
/-- a long that isn't negative, as a double, in units of 2^qmin -/
def own_z (n : Int64) : Nat := zmag b64 (val64 (l2d n))
theorem own_zshape {n : Int64} (h : 0 ≤ n.toInt) : ∃ c q, val64 (l2d n) = .fin false c q ∧ own_z n = inUnits c q b64.qmin ∧ roundRatio b64 false n.toInt.natAbs 1 0 = .fin false c q ∧ b64.qmin ≤ q ∧ q ≤ b64.qmax := by
  obtain ⟨c, q, hs⟩ := l2d_shape n
  rw [decide_eq_false (by omega)] at hs
  have h1 : val64 (l2d n) = roundRatio b64 (decide (n.toInt < 0)) n.toInt.natAbs 1 0 := val64_l2d n
  rw [decide_eq_false (by omega)] at h1
  have hf := val64_fits (l2d n)
  rw [hs] at hf
  refine ⟨c, q, hs, ?_, by rw [← h1, hs], hf.2.1, hf.2.2.1⟩
  unfold own_z
  rw [hs]; rfl
theorem own_zmono {n m : Int64} (h : 0 ≤ n.toInt) (hnm : n.toInt ≤ m.toInt) : own_z n ≤ own_z m := by
  obtain ⟨c, q, -, h1, h2, -⟩ := own_zshape h
  obtain ⟨c', q', -, h1', h2', -⟩ := own_zshape (n := m) (by omega)
  rw [h1, h1']
  refine own_rmono (e0 := b64.qmin) (by decide) (by decide) (Int.le_refl _) own_q0 own_q0 h2 h2' ?_
  rw [Nat.mul_one, Nat.mul_one]
  exact Nat.mul_le_mul_right _ (by omega)
theorem own_z0 : own_z 0 = 0 := by decide +kernel
theorem own_z1 : own_z 1 = 2 ^ 1074 := by decide +kernel
theorem own_zM : own_z 9223372036854775807 = 2 ^ 63 * 2 ^ 1074 := by decide +kernel
theorem own_z_pos {n : Int64} (h : 1 ≤ n.toInt) : 2 ^ 1074 ≤ own_z n := by
  rw [← own_z1]
  exact own_zmono (by decide) (by have : (1 : Int64).toInt = 1 := by decide
                                  omega)
theorem own_z_le (n : Int64) (h : 0 ≤ n.toInt) : own_z n ≤ 2 ^ 63 * 2 ^ 1074 := by
  rw [← own_zM]
  refine own_zmono h ?_
  have e : (9223372036854775807 : Int64).toInt = 9223372036854775807 := by decide
  have := rng64 n
  omega
theorem own_z_ne {n : Int64} (h : 1 ≤ n.toInt) : 0 < own_z n := Nat.lt_of_lt_of_le (Nat.two_pow_pos 1074) (own_z_pos h)
theorem own_valfr {r t : Int64} (hr : 1 ≤ r.toInt) (ht : 0 ≤ t.toInt) : val64 (own_fr r t) = roundRatio b64 false (own_z t) (own_z r) 0 := by
  obtain ⟨c, q, h1, h2, -, h3, h4⟩ := own_zshape ht
  obtain ⟨d, w, g1, g2, -, g3, g4⟩ := own_zshape (n := r) (by omega)
  have hz := own_z_ne hr
  have hd : d ≠ 0 := by
    intro z
    rw [g2, z] at hz
    simp [inUnits] at hz
  have e : val64 (own_fr r t) = quotient b64 (val64 (l2d t)) (val64 (l2d r)) := val64_ddiv _ _
  rw [e, h1, g1]
  show (if d = 0 then _ else roundRatio b64 (false != false) c d (q - w)) = _
  rw [if_neg hd]
  refine roundRatio_congr (Nat.pos_of_ne_zero hd) hz ?_
  rw [h2, g2]
  unfold inUnits
  have e1 : (w - b64.qmin).toNat + (q - w - 0).toNat = (q - b64.qmin).toNat + (0 - (q - w)).toNat := by omega
  calc c * (d * 2 ^ (w - b64.qmin).toNat) * 2 ^ (q - w - 0).toNat = c * d * 2 ^ ((w - b64.qmin).toNat + (q - w - 0).toNat) := by rw [Nat.pow_add]; ac_rfl
    _ = c * d * 2 ^ ((q - b64.qmin).toNat + (0 - (q - w)).toNat) := by rw [e1]
    _ = c * 2 ^ (q - b64.qmin).toNat * d * 2 ^ (0 - (q - w)).toNat := by rw [Nat.pow_add]; ac_rfl
theorem own_frnn {r t : Int64} (hr : 1 ≤ r.toInt) (ht : 0 ≤ t.toInt) : val64 (own_fr r t) ≠ .nan := by
  rw [own_valfr hr ht]; exact roundRatio_ne_nan _ _ _ _ _
theorem own_zfr {r t : Int64} (hr : 1 ≤ r.toInt) (ht : 0 ≤ t.toInt) : zval b64 (val64 (own_fr r t)) = ((zmag b64 (roundRatio b64 false (own_z t) (own_z r) 0) : Nat) : Int) := by
  rw [own_valfr hr ht, zval, sgn_roundRatio]; rfl
theorem own_v1 : FP.Core.fits b64 (.fin false (2 ^ 52) (-52)) ∧ zmag b64 (.fin false (2 ^ 52) (-52)) = 2 ^ 1074 := by
  refine ⟨⟨by decide, by decide, by decide, Or.inr (by decide)⟩, by decide +kernel⟩
theorem own_v63 : FP.Core.fits b64 (.fin false (2 ^ 52) (-115)) ∧ zmag b64 (.fin false (2 ^ 52) (-115)) = 2 ^ 1011 := by
  refine ⟨⟨by decide, by decide, by decide, Or.inr (by decide)⟩, by decide +kernel⟩
theorem own_units0 (A : Nat) : inUnits A 0 b64.qmin = A * 2 ^ 1074 := by
  have : ((0 : Int) - b64.qmin).toNat = 1074 := by decide
  unfold inUnits; rw [this]
theorem own_m0 : (b64.qmin - b64.qmin).toNat = 0 := by decide
theorem own_le1 {x y : Nat} (hy : 0 < y) (h : x ≤ y) : zmag b64 (roundRatio b64 false x y 0) ≤ 2 ^ 1074 := by
  have := zmag_roundRatio_le good_b64 (s := false) (A := x) (B := y) (e := 0) (e0 := b64.qmin) hy own_v1.1 Datum.noConfusion (Int.le_refl _) own_q0 (by
    rw [own_v1.2, own_units0, own_m0, Nat.pow_zero, Nat.mul_one, Nat.mul_comm x]
    exact Nat.mul_le_mul_left _ h)
  rwa [own_v1.2] at this
theorem own_fin1 {x y : Nat} (hy : 0 < y) (h : x ≤ y) : ∃ c q, roundRatio b64 false x y 0 = .fin false c q ∧ zmag b64 (roundRatio b64 false x y 0) = inUnits c q b64.qmin := by
  rcases roundRatio_cases b64 false x y 0 with ⟨c, q, hc⟩ | hi
  · exact ⟨c, q, hc, by rw [hc]; rfl⟩
  · have h1 := own_le1 hy h
    rw [hi] at h1
    have h2 : zmag b64 (.inf false) = 2 ^ 52 * 2 ^ 2046 := by decide +kernel
    rw [h2, ← Nat.pow_add] at h1
    exact absurd h1 (Nat.not_le.mpr (Nat.pow_lt_pow_right (by decide) (by decide)))
theorem own_qmono {x x' y : Nat} (hy : 0 < y) (h : x ≤ x') (h' : x' ≤ y) : zmag b64 (roundRatio b64 false x y 0) ≤ zmag b64 (roundRatio b64 false x' y 0) := by
  obtain ⟨c, q, h1, h2⟩ := own_fin1 hy (Nat.le_trans h h')
  obtain ⟨c', q', h1', h2'⟩ := own_fin1 hy h'
  rw [h2, h2']
  refine own_rmono (e0 := b64.qmin) hy hy (Int.le_refl _) own_q0 own_q0 h1 h1' ?_
  rw [own_units0, own_units0]
  exact Nat.mul_le_mul_right _ (Nat.mul_le_mul_right _ h)
theorem own_pos63 {x y : Nat} (hy : 0 < y) (hx : 2 ^ 1074 ≤ x) (h : y ≤ 2 ^ 63 * 2 ^ 1074) : 2 ^ 1011 ≤ zmag b64 (roundRatio b64 false x y 0) := by
  have := zmag_roundRatio_ge good_b64 (s := false) (A := x) (B := y) (e := 0) (e0 := b64.qmin) hy own_v63.1 (Int.le_refl _) own_q0 (by
    rw [own_v63.2, own_units0, own_m0, Nat.pow_zero, Nat.mul_one]
    calc 2 ^ 1011 * y ≤ 2 ^ 1011 * (2 ^ 63 * 2 ^ 1074) := Nat.mul_le_mul_left _ h
      _ = 2 ^ 1074 * 2 ^ 1074 := by rw [← Nat.mul_assoc, ← Nat.pow_add]
      _ ≤ x * 2 ^ 1074 := Nat.mul_le_mul_right _ hx)
  rwa [own_v63.2] at this
theorem own_same {y : Nat} (hy : 0 < y) : zmag b64 (roundRatio b64 false y y 0) = 2 ^ 1074 := by
  rw [roundRatio_congr (f := b64) (s := false) (A := y) (B := y) (A' := 1) (B' := 1) (e := 0) (e' := 0) hy (by decide) (by simp)]
  decide +kernel
theorem own_order2 {x y : UInt64} (hx : val64 x ≠ .nan) (hy : val64 y ≠ .nan) : dcmp x y = some (compare (zval b64 (val64 x)) (zval b64 (val64 y))) :=
  order_zval good_b64 (val64_fits x) (val64_fits y) hx hy
theorem own_inv : ∀ k : Fin 63, val64 (ddiv dconst1 (l2d ((1 : Int64) <<< ((Int32.ofNat k.val) &&& 0x3f).toInt64))) = .fin false (2 ^ 52) (-52 - (k.val : Int)) ∧ val64 (l2d ((1 : Int64) <<< ((Int32.ofNat k.val) &&& 0x3f).toInt64)) = .fin false (2 ^ 52) ((k.val : Int) - 52) := by decide +kernel
theorem own_exactv (k : Fin 63) (t : Int64) (ht : 0 ≤ t.toInt) :
    val64 (own_fr ((1 : Int64) <<< ((Int32.ofNat k.val) &&& 0x3f).toInt64) t) = val64 (dmul (l2d t) (ddiv dconst1 (l2d ((1 : Int64) <<< ((Int32.ofNat k.val) &&& 0x3f).toInt64)))) ∧ val64 (own_fr ((1 : Int64) <<< ((Int32.ofNat k.val) &&& 0x3f).toInt64) t) ≠ .nan := by
  obtain ⟨h1, h2⟩ := own_inv k
  obtain ⟨c, q, g1, -⟩ := own_zshape ht
  have e1 : val64 (own_fr ((1 : Int64) <<< ((Int32.ofNat k.val) &&& 0x3f).toInt64) t) = roundRatio b64 false c (2 ^ 52) (q - ((k.val : Int) - 52)) := by
    have e : val64 (own_fr ((1 : Int64) <<< ((Int32.ofNat k.val) &&& 0x3f).toInt64) t) = quotient b64 (val64 (l2d t)) (val64 (l2d ((1 : Int64) <<< ((Int32.ofNat k.val) &&& 0x3f).toInt64))) := val64_ddiv _ _
    rw [e, g1, h2]
    show (if (2 ^ 52 : Nat) = 0 then (if c = 0 then Datum.nan else Datum.inf (false != false)) else roundRatio b64 (false != false) c (2 ^ 52) (q - ((k.val : Int) - 52))) = _
    rw [if_neg (by decide)]; rfl
  have e2 : val64 (dmul (l2d t) (ddiv dconst1 (l2d ((1 : Int64) <<< ((Int32.ofNat k.val) &&& 0x3f).toInt64)))) = roundRatio b64 false (c * 2 ^ 52) 1 (q + (-52 - (k.val : Int))) := by
    rw [val64_dmul, g1, h1]; rfl
  refine ⟨?_, by rw [e1]; exact roundRatio_ne_nan _ _ _ _ _⟩
  rw [e1, e2]
  refine roundRatio_congr (by decide) (by decide) ?_
  have x1 : (q - ((k.val : Int) - 52) - (q + (-52 - (k.val : Int)))).toNat = 104 := by omega
  have x2 : (q + (-52 - (k.val : Int)) - (q - ((k.val : Int) - 52))).toNat = 0 := by omega
  rw [x1, x2]
  rw [Nat.mul_one, Nat.pow_zero, Nat.mul_one, Nat.mul_assoc, ← Nat.pow_add]
end OwnF

def own_m (x : Int64) : Int64 := x &&& (9223372036854775807 : Int64)
def own_r (a : Int64) : Int64 := if lcmpW (own_m a) (0 : Int64) = (0 : Int32) then (1 : Int64) else own_m a
def own_rem (x r : Int64) : Int64 := x - (x / (r + (1 : Int64))) * (r + (1 : Int64))
def own_t (a b : Int64) : Int64 := own_rem (own_m b) (own_r a)
def own_t2 (a b c : Int64) : Int64 := own_t a b + own_rem (own_m c) (own_r a - own_t a b)
def own_k (e : Int32) : Int32 := (e &&& (2147483647 : Int32)) - ((e &&& (2147483647 : Int32)) / (63 : Int32)) * (63 : Int32)
def own_r3 (e : Int32) : Int64 := (1 : Int64) <<< ((own_k e) &&& 0x3f).toInt64
def own_t3 (b : Int64) (e : Int32) : Int64 := own_rem (own_m b) (own_r3 e)
theorem own_mask (x : Int64) : 0 ≤ (own_m x).toInt ∧ (own_m x).toInt < 9223372036854775808 := by
  have h := c_maskL x 9223372036854775807 63 (by decide) (by decide)
  have e : ((2 ^ 63 : Nat) : Int) = 9223372036854775808 := by decide
  rw [e] at h
  unfold own_m
  omega
theorem own_nz {r : Int64} (hr : 0 ≤ r.toInt) : r + (1 : Int64) ≠ 0 := by
  intro h
  have a := c_ladd r 1
  rw [h] at a
  have e0 : (0 : Int64).toInt = 0 := by decide
  have e1 : (1 : Int64).toInt = 1 := by decide
  have := rng64 r
  omega
theorem own_rem_rng {x r : Int64} (hx : 0 ≤ x.toInt) (hr : 0 ≤ r.toInt) : 0 ≤ (own_rem x r).toInt ∧ (own_rem x r).toInt ≤ r.toInt := by
  have a := c_ladd r 1
  have a' := rng64 (r + 1)
  have e1 : (1 : Int64).toInt = 1 := by decide
  have hR := rng64 r
  have hX := rng64 x
  unfold own_rem
  by_cases h : r.toInt = 9223372036854775807
  · have hd : (r + 1).toInt = -9223372036854775808 := by omega
    have h1 := (c_lremN x (r + 1) 9223372036854775808 (by decide) hd).1 hx
    rw [h1]
    omega
  · have hd : (r + 1).toInt = r.toInt + 1 := by omega
    have h1 := (c_lrem x (r + 1) _ hd).1 hx
    rw [h1]
    have h3 := Int.emod_nonneg x.toInt (b := r.toInt + 1) (by omega)
    have h4 := Int.emod_lt_of_pos x.toInt (b := r.toInt + 1) (by omega)
    omega
theorem own_r_rng (a : Int64) : 1 ≤ (own_r a).toInt := by
  have h := own_mask a
  have e1 : (1 : Int64).toInt = 1 := by decide
  unfold own_r
  by_cases hc : lcmpW (own_m a) (0 : Int64) = (0 : Int32)
  · rw [if_pos hc]; omega
  · rw [if_neg hc]
    rw [lw_eq, ← Int64.toInt_inj] at hc
    have e0 : (0 : Int64).toInt = 0 := by decide
    omega
theorem own_t_rng (a b : Int64) : 0 ≤ (own_t a b).toInt ∧ (own_t a b).toInt ≤ (own_r a).toInt := by
  have h := own_r_rng a
  exact own_rem_rng (own_mask b).1 (by omega)
theorem own_d_val (a b : Int64) : (own_r a - own_t a b).toInt = (own_r a).toInt - (own_t a b).toInt := by
  have h1 := own_r_rng a
  have h2 := own_t_rng a b
  have h3 := c_lsub (own_r a) (own_t a b)
  have h4 := rng64 (own_r a - own_t a b)
  have h5 := rng64 (own_r a)
  omega
theorem own_t2_rng (a b c : Int64) : (own_t a b).toInt ≤ (own_t2 a b c).toInt ∧ (own_t2 a b c).toInt ≤ (own_r a).toInt := by
  have h1 := own_r_rng a
  have h2 := own_t_rng a b
  have h3 := own_d_val a b
  have h4 := own_rem_rng (x := own_m c) (r := own_r a - own_t a b) (own_mask c).1 (by omega)
  have h5 := c_ladd (own_t a b) (own_rem (own_m c) (own_r a - own_t a b))
  have h6 := rng64 (own_t a b + own_rem (own_m c) (own_r a - own_t a b))
  have h7 := rng64 (own_r a)
  unfold own_t2
  omega
theorem own_k_fin (e : Int32) : ∃ k : Fin 63, own_k e = Int32.ofNat k.val := by
  have h := c_mask e 2147483647 31 (by decide) (by decide)
  have e31 : ((2 ^ 31 : Nat) : Int) = 2147483648 := by decide
  rw [e31] at h
  have hk : 0 ≤ (own_k e).toInt ∧ (own_k e).toInt < 63 := by
    unfold own_k
    generalize (e &&& (2147483647 : Int32)) = a at *
    have h1 := (c_idiv a 63 63 (by decide) (by decide)).1 (by omega)
    have h2 := c_imul (a / 63) 63
    have e63 : (63 : Int32).toInt = 63 := by decide
    rw [e63] at h2
    have h3 := c_isub a (a / 63 * 63)
    have h4 := rng32 (a / 63 * 63)
    have h5 := rng32 (a - a / 63 * 63)
    omega
  refine ⟨⟨(own_k e).toInt.toNat, by omega⟩, ?_⟩
  apply Int32.toInt_inj.mp
  rw [Int32.toInt_ofNat_of_lt (by show (own_k e).toInt.toNat < _; omega)]
  show (own_k e).toInt = (((own_k e).toInt.toNat : Nat) : Int)
  omega
theorem own_r3_all : ∀ k : Fin 63, 1 ≤ ((1 : Int64) <<< ((Int32.ofNat k.val) &&& 0x3f).toInt64).toInt := by decide +kernel
theorem own_r3_rng (e : Int32) : 1 ≤ (own_r3 e).toInt := by
  obtain ⟨k, hk⟩ := own_k_fin e
  unfold own_r3
  rw [hk]
  exact own_r3_all k
theorem own_t3_rng (b : Int64) (e : Int32) : 0 ≤ (own_t3 b e).toInt := by
  have h := own_r3_rng e
  exact (own_rem_rng (own_mask b).1 (by omega)).1
theorem own_cmp_l {x y : Int} : cmpValue (some (compare x y)) .l = (0 : Int32) ↔ x = y := by
  simp only [compare, compareOfLessAndEq]
  by_cases h : x < y
  · rw [if_pos h]; exact ⟨fun q => absurd q (by decide), fun q => by omega⟩
  · rw [if_neg h]
    by_cases h2 : x = y
    · rw [if_pos h2]; exact ⟨fun _ => h2, fun _ => by decide⟩
    · rw [if_neg h2]; exact ⟨fun q => absurd q (by decide), fun q => absurd q h2⟩
theorem own_cmp_g {x y : Int} : (0 : Int32) < cmpValue (some (compare x y)) .g ↔ y < x := by
  simp only [compare, compareOfLessAndEq]
  by_cases h : x < y
  · rw [if_pos h]; exact ⟨fun q => absurd q (by decide), fun q => by omega⟩
  · rw [if_neg h]
    by_cases h2 : x = y
    · rw [if_pos h2]; exact ⟨fun q => absurd q (by decide), fun q => by omega⟩
    · rw [if_neg h2]; exact ⟨fun _ => by omega, fun _ => by decide⟩
theorem own_d0 : FP.Core.zval FP.Core.b64 (FP.Core.val64 FP.dconst0) = 0 ∧ FP.Core.val64 FP.dconst0 ≠ .nan := by
  have h : FP.Core.val64 FP.dconst0 = .fin false 0 FP.Core.b64.qmin := by decide +kernel
  rw [h]
  exact ⟨by decide, FP.Core.Datum.noConfusion⟩
theorem own_d1 : FP.Core.zval FP.Core.b64 (FP.Core.val64 FP.dconst1) = ((2 ^ 1074 : Nat) : Int) ∧ FP.Core.val64 FP.dconst1 ≠ .nan := by
  have h : FP.Core.val64 FP.dconst1 = .fin false (2 ^ 52) (-52) := by decide +kernel
  rw [h]
  refine ⟨?_, FP.Core.Datum.noConfusion⟩
  show ((FP.Core.zmag FP.Core.b64 (.fin false (2 ^ 52) (-52)) : Nat) : Int) = _
  rw [own_v1.2]
theorem own_b0 {r t : Int64} (hr : 1 ≤ r.toInt) (ht : 0 ≤ t.toInt) : ¬ (0 : Int32) < cmpValue (FP.dcmp FP.dconst0 (own_fr r t)) .g := by
  have e : FP.dcmp FP.dconst0 (own_fr r t) = _ := own_order2 own_d0.2 (own_frnn hr ht)
  rw [e, own_cmp_g, own_d0.1, own_zfr hr ht]
  exact Int.not_lt.mpr (Int.natCast_nonneg _)
theorem own_b1 {r t : Int64} (hr : 1 ≤ r.toInt) (ht : 0 ≤ t.toInt) (htr : t.toInt ≤ r.toInt) : ¬ (0 : Int32) < cmpValue (FP.dcmp (own_fr r t) FP.dconst1) .g := by
  have e : FP.dcmp (own_fr r t) FP.dconst1 = _ := own_order2 (own_frnn hr ht) own_d1.2
  rw [e, own_cmp_g, own_d1.1, own_zfr hr ht]
  exact Int.not_lt.mpr (Int.ofNat_le.mpr (own_le1 (own_z_ne hr) (own_zmono ht htr)))
theorem own_zero {r t : Int64} (hr : 1 ≤ r.toInt) (ht : 0 ≤ t.toInt) : (if cmpValue (FP.dcmp (own_fr r t) FP.dconst0) .l = (0 : Int32) then (1 : Int32) else (0 : Int32)) = (if lcmpW t (0 : Int64) = (0 : Int32) then (1 : Int32) else (0 : Int32)) := by
  have e : FP.dcmp (own_fr r t) FP.dconst0 = _ := own_order2 (own_frnn hr ht) own_d0.2
  rw [e]
  have e0 : (0 : Int64).toInt = 0 := by decide
  by_cases h : t = 0
  · rw [if_pos (own_cmp_l.mpr (by
      rw [own_d0.1, own_zfr hr ht, h, own_z0]
      have e9 : FP.Core.roundRatio FP.Core.b64 false 0 (own_z r) 0 = .fin false 0 FP.Core.b64.qmin := rfl
      rw [e9]
      decide)), if_pos ((lw_eq _ _).mpr h)]
  · rw [if_neg (fun q => by
      have q2 := own_cmp_l.mp q
      rw [own_d0.1, own_zfr hr ht] at q2
      have ht1 : 1 ≤ t.toInt := by
        have : t.toInt ≠ 0 := fun z => h (Int64.toInt_inj.mp (by rw [z, e0]))
        omega
      have := own_pos63 (own_z_ne hr) (own_z_pos ht1) (own_z_le r (by omega))
      have hp := Nat.two_pow_pos 1011
      generalize (2 : Nat) ^ 1011 = P at *
      omega), if_neg (fun q => h ((lw_eq _ _).mp q))]
theorem own_whole {r t : Int64} (hr : 1 ≤ r.toInt) (h : lcmpW t r = (0 : Int32)) : cmpValue (FP.dcmp (own_fr r t) FP.dconst1) .l = (0 : Int32) := by
  have h' := (lw_eq _ _).mp h
  subst h'
  have e : FP.dcmp (own_fr t t) FP.dconst1 = _ := own_order2 (own_frnn hr (by omega)) own_d1.2
  rw [e]
  refine own_cmp_l.mpr ?_
  rw [own_d1.1, own_zfr hr (by omega), own_same (own_z_ne hr)]
theorem own_mon {r t t2 : Int64} (hr : 1 ≤ r.toInt) (ht : 0 ≤ t.toInt) (h1 : t.toInt ≤ t2.toInt) (h2 : t2.toInt ≤ r.toInt) : ¬ (0 : Int32) < cmpValue (FP.dcmp (own_fr r t) (own_fr r t2)) .g := by
  have e : FP.dcmp (own_fr r t) (own_fr r t2) = _ := own_order2 (own_frnn hr ht) (own_frnn hr (by omega))
  rw [e, own_cmp_g, own_zfr hr ht, own_zfr hr (by omega)]
  exact Int.not_lt.mpr (Int.ofNat_le.mpr (own_qmono (own_z_ne hr) (own_zmono ht h1) (own_zmono (by omega) h2)))
theorem own_nnfr {r t : Int64} (hr : 1 ≤ r.toInt) (ht : 0 ≤ t.toInt) : Jvm.Free.Fl.NoNaN64 (own_fr r t) := Jvm.Free.Fl.val64_no.mpr (own_frnn hr ht)
theorem own_nn1 (e : Int32) : Jvm.Free.Fl.NoNaN64 (FP.ddiv FP.dconst1 (FP.l2d (own_r3 e))) := by
  obtain ⟨k, hk⟩ := own_k_fin e
  refine Jvm.Free.Fl.val64_no.mpr ?_
  unfold own_r3
  rw [hk]
  intro q
  have h := (own_inv k).1
  exact absurd (h.symm.trans q) FP.Core.Datum.noConfusion
theorem own_nn2 (b : Int64) (e : Int32) : Jvm.Free.Fl.NoNaN64 (FP.dmul (FP.l2d (own_t3 b e)) (FP.ddiv FP.dconst1 (FP.l2d (own_r3 e)))) := by
  obtain ⟨k, hk⟩ := own_k_fin e
  refine Jvm.Free.Fl.val64_no.mpr ?_
  have h := own_exactv k (own_t3 b e) (own_t3_rng b e)
  generalize own_t3 b e = t at *
  unfold own_r3
  rw [hk]
  intro q
  exact h.2 (h.1.trans q)
theorem own_exact (b : Int64) (e : Int32) : cmpValue (FP.dcmp (own_fr (own_r3 e) (own_t3 b e)) (FP.dmul (FP.l2d (own_t3 b e)) (FP.ddiv FP.dconst1 (FP.l2d (own_r3 e))))) .l = (0 : Int32) := by
  obtain ⟨k, hk⟩ := own_k_fin e
  have h := own_exactv k (own_t3 b e) (own_t3_rng b e)
  generalize own_t3 b e = t at *
  unfold own_r3
  rw [hk]
  have e2 : FP.dcmp (own_fr ((1 : Int64) <<< ((Int32.ofNat k.val) &&& 0x3f).toInt64) t) (FP.dmul (FP.l2d t) (FP.ddiv FP.dconst1 (FP.l2d ((1 : Int64) <<< ((Int32.ofNat k.val) &&& 0x3f).toInt64)))) = _ := own_order2 h.2 (fun q => h.2 (h.1.trans q))
  rw [e2]
  exact own_cmp_l.mpr (congrArg (FP.Core.zval FP.Core.b64) h.1)
theorem pn_3 : plainName "java/lang/Record" = true := by first | (simp [plainName, overriddenIn]; done) | decide +kernel
theorem ef_rm_rec (m : MethodId) (x0 : Addr) : entryFrame m #[(.ref x0)] 1 = mkF m 0 #[.val (.ref x0)] [] := by first | (simp [entryFrame, mkF, argsToLocals, Value.category]; done) | rfl
def Q_rm_rec (Z : State) (a1 : Addr) (h0 : Heap) (n0 : Nat) (v : Option Value) (h : Heap) (L : List Loc) : Prop := v = none ∧ Fr n0 L ∧ h = h0
theorem d3_0 : decode jdk_30_method_1_code 0 = .ok (.aload_n 0, 1) := by decide +kernel
theorem d3_1 : decode jdk_30_method_1_code 1 = .ok (.invokespecial 1, 3) := by decide +kernel
theorem d3_4 : decode jdk_30_method_1_code 4 = .ok (.return_, 1) := by decide +kernel
set_option maxRecDepth 65536 in
set_option maxHeartbeats 40000000 in
theorem rm_rec (l : Launch) (Z : State) (a0 : Array Value) (hw : ∀ d ∈ tables_1, d.before a0 Z = true) (ws : List Jvm.Cond) (a1 : Addr) (h0 : Heap) (n0 : Nat) (Z0 : n0 ≤ h0.size)  :
    MetFree l (⟨"java/lang/Record", "<init>", "()V"⟩ : MethodName) (head1 (Jvm.Cond.code (⟨"java/lang/Record", "<init>", "()V"⟩ : MethodName) jdk_30_method_1_code 1 none :: ws) ({ frames := 1, cells := 0, slots := 0, locals := 12 } : Room)) (fun a U => a = #[(.ref a1)] ∧ Z.Warmed39 U.vm ∧ U.heap = h0) (fun _ _ _ _ _ => True) (fun _ U o U' => ∃ v L, o = .returned v ∧ Q_rm_rec Z a1 h0 n0 v U'.heap L ∧ FrameEnd U o U' L ({ frames := 1, cells := 0, slots := 0, locals := 12 } : Room).cells ({ frames := 1, cells := 0, slots := 0, locals := 12 } : Room).slots) := by
  refine MetFree.of_bodySF (plainFor_of_name pn_3) hisR ?_
  intro p e s m args below meth c s₁ Bd hml0 hP hK
  obtain ⟨rfl, hZ, hh⟩ := hP
  have hx := Bd.exec
  have hby := Bd.bytes
  have hml : c.maxLocals = 1 := hml0
  have hown : s.vm.findClass "java/lang/Record" = some m.cls := findClass_of_methodNamed Bd.named
  have hnm := (name_of_methodNamed Bd.named Bd.method).1
  have X0 : Stand p l e ({ frames := 1, cells := 0, slots := 0, locals := 12 } : Room) s m #[(.ref a1)] below meth c s₁ [] 0 0 := Stand.of_body Bd
  have e0 : s₁.heap = h0 := by rw [← hh, Bd.state]; rfl
  have N0 := Fr.nil n0
  have pre0 : ∀ t, Steps p.tables e below (s₁.setTop (mkF m 0 #[.val (.ref a1)] [])) t → Steps p.tables e below (s₁.setTop (entryFrame m #[(.ref a1)] 1)) t := fun t kt => castTop (ef_rm_rec m a1) kt
  obtain ⟨T1, X1, e1, st1⟩ := initO X0 hx hZ hown (hw _ (List.mem_of_getElem? (i := 25) rfl)) (hw _ (List.mem_of_getElem? (i := 26) rfl)) (hw _ (List.mem_of_getElem? (i := 27) rfl)) e0 (g := (mkF m 1 #[.val (.ref a1)] [(.ref a1)])) rfl (by rw [hml]; rfl) rfl (hb hby d3_1) (by decide) (W := 0) (by show 2 * 0 + _ ≤ _; exact Nat.le_of_eq rfl) (by decide)
  obtain ⟨fs, hr, hrun, hended, hW, hsame⟩ := X1.leave (v := none) (fun _ => rfl) (hlocks := Bd.notSynchronized)
  refine ⟨_, _, pre0 _ ?_, hrun, hended, _, _, rfl, ?_, ⟨_, rfl⟩, hW, hsame.mono (by decide) (by decide)⟩
  · show Steps p.tables e below (s₁.setTop (mkF m 0 #[.val (.ref a1)] [])) _
    refine XS.aloadN X0.here hx rfl (hb hby d3_0) rfl rfl ?_
    show Steps p.tables e below (s₁.setTop (mkF m 1 #[.val (.ref a1)] [(.ref a1)])) _
    refine st1 _ ?_
    show Steps p.tables e below (T1.setTop (mkF m 4 #[.val (.ref a1)] [])) _
    exact X1.returnOut hx Bd.returns (hb hby d3_4) hr
  · show Q_rm_rec Z a1 h0 n0 _ T1.heap _
    rw [e1]
    exact ⟨rfl, N0, rfl⟩
theorem pn_2 : plainName "com/example/antechamber/antechamber/bench/Run$Result" = true := by first | (simp [plainName, overriddenIn]; done) | decide +kernel
theorem ef_rm_ini (m : MethodId) (x0 : Addr) (x1 : Addr) (x2 : UInt64) (x3 : UInt64) (x4 : Int64) (x5 : Int64) (x6 : Int64) (x7 : UInt64) (x8 : UInt64) (x9 : UInt64) : entryFrame m #[(.ref x0), (.ref x1), (.double x2), (.double x3), (.long x4), (.long x5), (.long x6), (.double x7), (.double x8), (.double x9)] 18 = mkF m 0 #[.val (.ref x0), .val (.ref x1), .val (.double x2), .second, .val (.double x3), .second, .val (.long x4), .second, .val (.long x5), .second, .val (.long x6), .second, .val (.double x7), .second, .val (.double x8), .second, .val (.double x9), .second] [] := by first | (simp [entryFrame, mkF, argsToLocals, Value.category]; done) | rfl
def Q_rm_ini (Z : State) (a1 : Addr) (a2 : Addr) (d3 : UInt64) (d4 : UInt64) (q5 : Int64) (q6 : Int64) (q7 : Int64) (d8 : UInt64) (d9 : UInt64) (d10 : UInt64) (h0 : Heap) (n0 : Nat) (v : Option Value) (h : Heap) (L : List Loc) : Prop := v = none ∧ Fr n0 L ∧ Keep h0 h [a1] ∧ Exa Z h a1 "com/example/antechamber/antechamber/bench/Run$Result" ∧ Fld Z h a1 "com/example/antechamber/antechamber/bench/Run$Result" "requests" "J" (.long q5) ∧ Fld Z h a1 "com/example/antechamber/antechamber/bench/Run$Result" "timedOut" "J" (.long q7)
theorem d2_0 : decode prog_50_method_1_code 0 = .ok (.aload_n 0, 1) := by decide +kernel
theorem pd___V_167 : parseMethodDescriptor "()V" = some ⟨[], none⟩ := by decide +kernel
theorem d2_1 : decode prog_50_method_1_code 1 = .ok (.invokespecial 1, 3) := by decide +kernel
theorem d2_4 : decode prog_50_method_1_code 4 = .ok (.aload_n 0, 1) := by decide +kernel
theorem d2_5 : decode prog_50_method_1_code 5 = .ok (.aload_n 1, 1) := by decide +kernel
theorem d2_6 : decode prog_50_method_1_code 6 = .ok (.putfield 7, 3) := by decide +kernel
theorem d2_9 : decode prog_50_method_1_code 9 = .ok (.aload_n 0, 1) := by decide +kernel
theorem d2_10 : decode prog_50_method_1_code 10 = .ok (.dload_n 2, 1) := by decide +kernel
theorem d2_11 : decode prog_50_method_1_code 11 = .ok (.putfield 13, 3) := by decide +kernel
theorem d2_14 : decode prog_50_method_1_code 14 = .ok (.aload_n 0, 1) := by decide +kernel
theorem d2_15 : decode prog_50_method_1_code 15 = .ok (.dload 4, 2) := by decide +kernel
theorem d2_17 : decode prog_50_method_1_code 17 = .ok (.putfield 17, 3) := by decide +kernel
theorem d2_20 : decode prog_50_method_1_code 20 = .ok (.aload_n 0, 1) := by decide +kernel
theorem d2_21 : decode prog_50_method_1_code 21 = .ok (.lload 6, 2) := by decide +kernel
theorem d2_23 : decode prog_50_method_1_code 23 = .ok (.putfield 20, 3) := by decide +kernel
theorem d2_26 : decode prog_50_method_1_code 26 = .ok (.aload_n 0, 1) := by decide +kernel
theorem d2_27 : decode prog_50_method_1_code 27 = .ok (.lload 8, 2) := by decide +kernel
theorem d2_29 : decode prog_50_method_1_code 29 = .ok (.putfield 24, 3) := by decide +kernel
theorem d2_32 : decode prog_50_method_1_code 32 = .ok (.aload_n 0, 1) := by decide +kernel
theorem d2_33 : decode prog_50_method_1_code 33 = .ok (.lload 10, 2) := by decide +kernel
theorem d2_35 : decode prog_50_method_1_code 35 = .ok (.putfield 27, 3) := by decide +kernel
theorem d2_38 : decode prog_50_method_1_code 38 = .ok (.aload_n 0, 1) := by decide +kernel
theorem d2_39 : decode prog_50_method_1_code 39 = .ok (.dload 12, 2) := by decide +kernel
theorem d2_41 : decode prog_50_method_1_code 41 = .ok (.putfield 30, 3) := by decide +kernel
theorem d2_44 : decode prog_50_method_1_code 44 = .ok (.aload_n 0, 1) := by decide +kernel
theorem d2_45 : decode prog_50_method_1_code 45 = .ok (.dload 14, 2) := by decide +kernel
theorem d2_47 : decode prog_50_method_1_code 47 = .ok (.putfield 33, 3) := by decide +kernel
theorem d2_50 : decode prog_50_method_1_code 50 = .ok (.aload_n 0, 1) := by decide +kernel
theorem d2_51 : decode prog_50_method_1_code 51 = .ok (.dload 16, 2) := by decide +kernel
theorem d2_53 : decode prog_50_method_1_code 53 = .ok (.putfield 36, 3) := by decide +kernel
theorem d2_56 : decode prog_50_method_1_code 56 = .ok (.return_, 1) := by decide +kernel
set_option maxRecDepth 65536 in
set_option maxHeartbeats 40000000 in
theorem rm_ini (l : Launch) (Z : State) (a0 : Array Value) (hw : ∀ d ∈ tables_1, d.before a0 Z = true) (ws : List Jvm.Cond) (a1 : Addr) (a2 : Addr) (d3 : UInt64) (d4 : UInt64) (q5 : Int64) (q6 : Int64) (q7 : Int64) (d8 : UInt64) (d9 : UInt64) (d10 : UInt64) (h0 : Heap) (n0 : Nat) (Z0 : n0 ≤ h0.size) (F_design_a1 : Fld Z h0 a1 "com/example/antechamber/antechamber/bench/Run$Result" "design" "Ljava/lang/String;" .null) (F_targetRate_a1 : Fld Z h0 a1 "com/example/antechamber/antechamber/bench/Run$Result" "targetRate" "D" (.double (0 : UInt64))) (F_achievedRate_a1 : Fld Z h0 a1 "com/example/antechamber/antechamber/bench/Run$Result" "achievedRate" "D" (.double (0 : UInt64))) (F_requests_a1 : Fld Z h0 a1 "com/example/antechamber/antechamber/bench/Run$Result" "requests" "J" (.long (0 : Int64))) (F_satisfied_a1 : Fld Z h0 a1 "com/example/antechamber/antechamber/bench/Run$Result" "satisfied" "J" (.long (0 : Int64))) (F_timedOut_a1 : Fld Z h0 a1 "com/example/antechamber/antechamber/bench/Run$Result" "timedOut" "J" (.long (0 : Int64))) (F_meanPending_a1 : Fld Z h0 a1 "com/example/antechamber/antechamber/bench/Run$Result" "meanPending" "D" (.double (0 : UInt64))) (F_meanHoldMs_a1 : Fld Z h0 a1 "com/example/antechamber/antechamber/bench/Run$Result" "meanHoldMs" "D" (.double (0 : UInt64))) (F_cpuSeconds_a1 : Fld Z h0 a1 "com/example/antechamber/antechamber/bench/Run$Result" "cpuSeconds" "D" (.double (0 : UInt64))) (E_a1 : Exa Z h0 a1 "com/example/antechamber/antechamber/bench/Run$Result") (g_a1 : n0 ≤ a1) :
    MetFree l (⟨"com/example/antechamber/antechamber/bench/Run$Result", "<init>", "(Ljava/lang/String;DDJJJDDD)V"⟩ : MethodName) (head1 (Jvm.Cond.code (⟨"com/example/antechamber/antechamber/bench/Run$Result", "<init>", "(Ljava/lang/String;DDJJJDDD)V"⟩ : MethodName) prog_50_method_1_code 18 none :: ws) ({ frames := 2, cells := 0, slots := 0, locals := 24 } : Room)) (fun a U => a = #[(.ref a1), (.ref a2), (.double d3), (.double d4), (.long q5), (.long q6), (.long q7), (.double d8), (.double d9), (.double d10)] ∧ Z.Warmed39 U.vm ∧ U.heap = h0) (fun _ _ _ _ _ => True) (fun _ U o U' => ∃ v L, o = .returned v ∧ Q_rm_ini Z a1 a2 d3 d4 q5 q6 q7 d8 d9 d10 h0 n0 v U'.heap L ∧ FrameEnd U o U' L ({ frames := 2, cells := 0, slots := 0, locals := 24 } : Room).cells ({ frames := 2, cells := 0, slots := 0, locals := 24 } : Room).slots) := by
  refine MetFree.of_bodySF (plainFor_of_name pn_2) hisR ?_
  intro p e s m args below meth c s₁ Bd hml0 hP hK
  obtain ⟨rfl, hZ, hh⟩ := hP
  have hx := Bd.exec
  have hby := Bd.bytes
  have hml : c.maxLocals = 18 := hml0
  have hown : s.vm.findClass "com/example/antechamber/antechamber/bench/Run$Result" = some m.cls := findClass_of_methodNamed Bd.named
  have hnm := (name_of_methodNamed Bd.named Bd.method).1
  have X0 : Stand p l e ({ frames := 2, cells := 0, slots := 0, locals := 24 } : Room) s m #[(.ref a1), (.ref a2), (.double d3), (.double d4), (.long q5), (.long q6), (.long q7), (.double d8), (.double d9), (.double d10)] below meth c s₁ [] 0 0 := Stand.of_body Bd
  have e0 : s₁.heap = h0 := by rw [← hh, Bd.state]; rfl
  have N0 := Fr.nil n0
  have pre0 : ∀ t, Steps p.tables e below (s₁.setTop (mkF m 0 #[.val (.ref a1), .val (.ref a2), .val (.double d3), .second, .val (.double d4), .second, .val (.long q5), .second, .val (.long q6), .second, .val (.long q7), .second, .val (.double d8), .second, .val (.double d9), .second, .val (.double d10), .second] [])) t → Steps p.tables e below (s₁.setTop (entryFrame m #[(.ref a1), (.ref a2), (.double d3), (.double d4), (.long q5), (.long q6), (.long q7), (.double d8), (.double d9), (.double d10)] 18)) t := fun t kt => castTop (ef_rm_ini m a1 a2 d3 d4 q5 q6 q7 d8 d9 d10) kt
  obtain ⟨_, _, ⟨T1, L1, k1, n1⟩, -, X1, ⟨Lc1, hQ1, l1, y1, z1⟩, st1⟩ := X0.specialBack hx (y := (⟨"java/lang/Record", "<init>", "()V"⟩ : MethodName)) rfl hown (mvT hZ (hw _ (List.mem_of_getElem? (i := 20) rfl))) (mvT hZ (hw _ (List.mem_of_getElem? (i := 21) rfl))) (mvT hZ (hw _ (List.mem_of_getElem? (i := 24) rfl))) (by decide) (backOf (W := 0) (rm_rec l Z a0 hw [] a1 h0 n0 Z0 ) hZ (hw _ (List.mem_of_getElem? (i := 24) rfl)) (hw _ (List.mem_of_getElem? (i := 23) rfl)) (by decide) (by decide)) (g := (mkF m 1 #[.val (.ref a1), .val (.ref a2), .val (.double d3), .second, .val (.double d4), .second, .val (.long q5), .second, .val (.long q6), .second, .val (.long q7), .second, .val (.double d8), .second, .val (.double d9), .second, .val (.double d10), .second] [(.ref a1)])) rfl (by rw [hml]; rfl) (Steps.refl _) (a := a1) (argsL := []) (rest := []) (lenOf pd___V_167 rfl) rfl (by show 2 * 0 + _ ≤ _; exact Nat.le_of_eq rfl) (hb hby d2_1) (fun _ _ => ⟨rfl, e0, (by decide : 0 + 0 ≤ _), (by decide : 0 + 0 ≤ _)⟩)
  dsimp only [Pt.U, Pt.locs, Pt.cells, Pt.slots] at X1 l1 y1 z1 st1 hQ1
  subst l1 y1 z1
  obtain ⟨rfl, N1q, e1⟩ := hQ1
  have N1 := Fr.app N0 N1q
  obtain ⟨T2, h2, X2, e2, W2, st2⟩ := putF X1 hx hZ hown (host := "") (Or.inl (hw _ (List.mem_of_getElem? (i := 28) rfl))) Via.refl e1 F_design_a1 E_a1 (Or.inr ⟨(hw _ (List.mem_of_getElem? (i := 29) rfl)), rfl, hnm⟩) (hw _ (List.mem_of_getElem? (i := 7) rfl)) (ty := (.object "java/lang/String")) (by decide) rfl rfl (g := (mkF m 6 #[.val (.ref a1), .val (.ref a2), .val (.double d3), .second, .val (.double d4), .second, .val (.long q5), .second, .val (.long q6), .second, .val (.long q7), .second, .val (.double d8), .second, .val (.double d9), .second, .val (.double d10), .second] [(.ref a2), (.ref a1)])) rfl rfl (hb hby d2_6)
  have f1 : Exa Z h2 a1 "com/example/antechamber/antechamber/bench/Run$Result" := E_a1.wr W2
  have f2 : Fld Z h2 a1 "com/example/antechamber/antechamber/bench/Run$Result" "design" "Ljava/lang/String;" (.ref a2) := F_design_a1.same W2
  have f3 : Fld Z h2 a1 "com/example/antechamber/antechamber/bench/Run$Result" "targetRate" "D" (.double (0 : UInt64)) := F_targetRate_a1.other W2 (Or.inr (slot_ne (Or.inr (hw _ (List.mem_of_getElem? (i := 31) rfl))) (Or.inr (hw _ (List.mem_of_getElem? (i := 29) rfl))) (by decide) (t := .double) (t' := (.object "java/lang/String")) (by decide) (by decide)))
  have f4 : Fld Z h2 a1 "com/example/antechamber/antechamber/bench/Run$Result" "achievedRate" "D" (.double (0 : UInt64)) := F_achievedRate_a1.other W2 (Or.inr (slot_ne (Or.inr (hw _ (List.mem_of_getElem? (i := 33) rfl))) (Or.inr (hw _ (List.mem_of_getElem? (i := 29) rfl))) (by decide) (t := .double) (t' := (.object "java/lang/String")) (by decide) (by decide)))
  have f5 : Fld Z h2 a1 "com/example/antechamber/antechamber/bench/Run$Result" "requests" "J" (.long (0 : Int64)) := F_requests_a1.other W2 (Or.inr (slot_ne (Or.inr (hw _ (List.mem_of_getElem? (i := 35) rfl))) (Or.inr (hw _ (List.mem_of_getElem? (i := 29) rfl))) (by decide) (t := .long) (t' := (.object "java/lang/String")) (by decide) (by decide)))
  have f6 : Fld Z h2 a1 "com/example/antechamber/antechamber/bench/Run$Result" "satisfied" "J" (.long (0 : Int64)) := F_satisfied_a1.other W2 (Or.inr (slot_ne (Or.inr (hw _ (List.mem_of_getElem? (i := 37) rfl))) (Or.inr (hw _ (List.mem_of_getElem? (i := 29) rfl))) (by decide) (t := .long) (t' := (.object "java/lang/String")) (by decide) (by decide)))
  have f7 : Fld Z h2 a1 "com/example/antechamber/antechamber/bench/Run$Result" "timedOut" "J" (.long (0 : Int64)) := F_timedOut_a1.other W2 (Or.inr (slot_ne (Or.inr (hw _ (List.mem_of_getElem? (i := 39) rfl))) (Or.inr (hw _ (List.mem_of_getElem? (i := 29) rfl))) (by decide) (t := .long) (t' := (.object "java/lang/String")) (by decide) (by decide)))
  have f8 : Fld Z h2 a1 "com/example/antechamber/antechamber/bench/Run$Result" "meanPending" "D" (.double (0 : UInt64)) := F_meanPending_a1.other W2 (Or.inr (slot_ne (Or.inr (hw _ (List.mem_of_getElem? (i := 41) rfl))) (Or.inr (hw _ (List.mem_of_getElem? (i := 29) rfl))) (by decide) (t := .double) (t' := (.object "java/lang/String")) (by decide) (by decide)))
  have f9 : Fld Z h2 a1 "com/example/antechamber/antechamber/bench/Run$Result" "meanHoldMs" "D" (.double (0 : UInt64)) := F_meanHoldMs_a1.other W2 (Or.inr (slot_ne (Or.inr (hw _ (List.mem_of_getElem? (i := 43) rfl))) (Or.inr (hw _ (List.mem_of_getElem? (i := 29) rfl))) (by decide) (t := .double) (t' := (.object "java/lang/String")) (by decide) (by decide)))
  have f10 : Fld Z h2 a1 "com/example/antechamber/antechamber/bench/Run$Result" "cpuSeconds" "D" (.double (0 : UInt64)) := F_cpuSeconds_a1.other W2 (Or.inr (slot_ne (Or.inr (hw _ (List.mem_of_getElem? (i := 45) rfl))) (Or.inr (hw _ (List.mem_of_getElem? (i := 29) rfl))) (by decide) (t := .double) (t' := (.object "java/lang/String")) (by decide) (by decide)))
  have f11 : n0 ≤ a1 := g_a1
  have f12 : Keep h0 h2 [a1] := (Keep.refl h0 [a1]).wr W2 (Or.inl (by simp))
  have N2 := Fr.snoc X2 N1 f11
  have Z2 : n0 ≤ h2.size := by rw [W2.size]; exact Z0
  obtain ⟨T3, h3, X3, e3, W3, st3⟩ := putF X2 hx hZ hown (host := "") (Or.inl (hw _ (List.mem_of_getElem? (i := 30) rfl))) Via.refl e2 f3 f1 (Or.inr ⟨(hw _ (List.mem_of_getElem? (i := 31) rfl)), rfl, hnm⟩) (hw _ (List.mem_of_getElem? (i := 7) rfl)) (ty := .double) (by decide) rfl rfl (g := (mkF m 11 #[.val (.ref a1), .val (.ref a2), .val (.double d3), .second, .val (.double d4), .second, .val (.long q5), .second, .val (.long q6), .second, .val (.long q7), .second, .val (.double d8), .second, .val (.double d9), .second, .val (.double d10), .second] [(.double d3), (.ref a1)])) rfl rfl (hb hby d2_11)
  have f13 : Exa Z h3 a1 "com/example/antechamber/antechamber/bench/Run$Result" := f1.wr W3
  have f14 : Fld Z h3 a1 "com/example/antechamber/antechamber/bench/Run$Result" "design" "Ljava/lang/String;" (.ref a2) := f2.other W3 (Or.inr (slot_ne (Or.inr (hw _ (List.mem_of_getElem? (i := 29) rfl))) (Or.inr (hw _ (List.mem_of_getElem? (i := 31) rfl))) (by decide) (t := (.object "java/lang/String")) (t' := .double) (by decide) (by decide)))
  have f15 : Fld Z h3 a1 "com/example/antechamber/antechamber/bench/Run$Result" "targetRate" "D" (.double d3) := f3.same W3
  have f16 : Fld Z h3 a1 "com/example/antechamber/antechamber/bench/Run$Result" "achievedRate" "D" (.double (0 : UInt64)) := f4.other W3 (Or.inr (slot_ne (Or.inr (hw _ (List.mem_of_getElem? (i := 33) rfl))) (Or.inr (hw _ (List.mem_of_getElem? (i := 31) rfl))) (by decide) (t := .double) (t' := .double) (by decide) (by decide)))
  have f17 : Fld Z h3 a1 "com/example/antechamber/antechamber/bench/Run$Result" "requests" "J" (.long (0 : Int64)) := f5.other W3 (Or.inr (slot_ne (Or.inr (hw _ (List.mem_of_getElem? (i := 35) rfl))) (Or.inr (hw _ (List.mem_of_getElem? (i := 31) rfl))) (by decide) (t := .long) (t' := .double) (by decide) (by decide)))
  have f18 : Fld Z h3 a1 "com/example/antechamber/antechamber/bench/Run$Result" "satisfied" "J" (.long (0 : Int64)) := f6.other W3 (Or.inr (slot_ne (Or.inr (hw _ (List.mem_of_getElem? (i := 37) rfl))) (Or.inr (hw _ (List.mem_of_getElem? (i := 31) rfl))) (by decide) (t := .long) (t' := .double) (by decide) (by decide)))
  have f19 : Fld Z h3 a1 "com/example/antechamber/antechamber/bench/Run$Result" "timedOut" "J" (.long (0 : Int64)) := f7.other W3 (Or.inr (slot_ne (Or.inr (hw _ (List.mem_of_getElem? (i := 39) rfl))) (Or.inr (hw _ (List.mem_of_getElem? (i := 31) rfl))) (by decide) (t := .long) (t' := .double) (by decide) (by decide)))
  have f20 : Fld Z h3 a1 "com/example/antechamber/antechamber/bench/Run$Result" "meanPending" "D" (.double (0 : UInt64)) := f8.other W3 (Or.inr (slot_ne (Or.inr (hw _ (List.mem_of_getElem? (i := 41) rfl))) (Or.inr (hw _ (List.mem_of_getElem? (i := 31) rfl))) (by decide) (t := .double) (t' := .double) (by decide) (by decide)))
  have f21 : Fld Z h3 a1 "com/example/antechamber/antechamber/bench/Run$Result" "meanHoldMs" "D" (.double (0 : UInt64)) := f9.other W3 (Or.inr (slot_ne (Or.inr (hw _ (List.mem_of_getElem? (i := 43) rfl))) (Or.inr (hw _ (List.mem_of_getElem? (i := 31) rfl))) (by decide) (t := .double) (t' := .double) (by decide) (by decide)))
  have f22 : Fld Z h3 a1 "com/example/antechamber/antechamber/bench/Run$Result" "cpuSeconds" "D" (.double (0 : UInt64)) := f10.other W3 (Or.inr (slot_ne (Or.inr (hw _ (List.mem_of_getElem? (i := 45) rfl))) (Or.inr (hw _ (List.mem_of_getElem? (i := 31) rfl))) (by decide) (t := .double) (t' := .double) (by decide) (by decide)))
  have f23 : n0 ≤ a1 := f11
  have f24 : Keep h0 h3 [a1] := f12.wr W3 (Or.inl (by simp))
  have N3 := Fr.snoc X3 N2 f23
  have Z3 : n0 ≤ h3.size := by rw [W3.size]; exact Z2
  obtain ⟨T4, h4, X4, e4, W4, st4⟩ := putF X3 hx hZ hown (host := "") (Or.inl (hw _ (List.mem_of_getElem? (i := 32) rfl))) Via.refl e3 f16 f13 (Or.inr ⟨(hw _ (List.mem_of_getElem? (i := 33) rfl)), rfl, hnm⟩) (hw _ (List.mem_of_getElem? (i := 7) rfl)) (ty := .double) (by decide) rfl rfl (g := (mkF m 17 #[.val (.ref a1), .val (.ref a2), .val (.double d3), .second, .val (.double d4), .second, .val (.long q5), .second, .val (.long q6), .second, .val (.long q7), .second, .val (.double d8), .second, .val (.double d9), .second, .val (.double d10), .second] [(.double d4), (.ref a1)])) rfl rfl (hb hby d2_17)
  have f25 : Exa Z h4 a1 "com/example/antechamber/antechamber/bench/Run$Result" := f13.wr W4
  have f26 : Fld Z h4 a1 "com/example/antechamber/antechamber/bench/Run$Result" "design" "Ljava/lang/String;" (.ref a2) := f14.other W4 (Or.inr (slot_ne (Or.inr (hw _ (List.mem_of_getElem? (i := 29) rfl))) (Or.inr (hw _ (List.mem_of_getElem? (i := 33) rfl))) (by decide) (t := (.object "java/lang/String")) (t' := .double) (by decide) (by decide)))
  have f27 : Fld Z h4 a1 "com/example/antechamber/antechamber/bench/Run$Result" "targetRate" "D" (.double d3) := f15.other W4 (Or.inr (slot_ne (Or.inr (hw _ (List.mem_of_getElem? (i := 31) rfl))) (Or.inr (hw _ (List.mem_of_getElem? (i := 33) rfl))) (by decide) (t := .double) (t' := .double) (by decide) (by decide)))
  have f28 : Fld Z h4 a1 "com/example/antechamber/antechamber/bench/Run$Result" "achievedRate" "D" (.double d4) := f16.same W4
  have f29 : Fld Z h4 a1 "com/example/antechamber/antechamber/bench/Run$Result" "requests" "J" (.long (0 : Int64)) := f17.other W4 (Or.inr (slot_ne (Or.inr (hw _ (List.mem_of_getElem? (i := 35) rfl))) (Or.inr (hw _ (List.mem_of_getElem? (i := 33) rfl))) (by decide) (t := .long) (t' := .double) (by decide) (by decide)))
  have f30 : Fld Z h4 a1 "com/example/antechamber/antechamber/bench/Run$Result" "satisfied" "J" (.long (0 : Int64)) := f18.other W4 (Or.inr (slot_ne (Or.inr (hw _ (List.mem_of_getElem? (i := 37) rfl))) (Or.inr (hw _ (List.mem_of_getElem? (i := 33) rfl))) (by decide) (t := .long) (t' := .double) (by decide) (by decide)))
  have f31 : Fld Z h4 a1 "com/example/antechamber/antechamber/bench/Run$Result" "timedOut" "J" (.long (0 : Int64)) := f19.other W4 (Or.inr (slot_ne (Or.inr (hw _ (List.mem_of_getElem? (i := 39) rfl))) (Or.inr (hw _ (List.mem_of_getElem? (i := 33) rfl))) (by decide) (t := .long) (t' := .double) (by decide) (by decide)))
  have f32 : Fld Z h4 a1 "com/example/antechamber/antechamber/bench/Run$Result" "meanPending" "D" (.double (0 : UInt64)) := f20.other W4 (Or.inr (slot_ne (Or.inr (hw _ (List.mem_of_getElem? (i := 41) rfl))) (Or.inr (hw _ (List.mem_of_getElem? (i := 33) rfl))) (by decide) (t := .double) (t' := .double) (by decide) (by decide)))
  have f33 : Fld Z h4 a1 "com/example/antechamber/antechamber/bench/Run$Result" "meanHoldMs" "D" (.double (0 : UInt64)) := f21.other W4 (Or.inr (slot_ne (Or.inr (hw _ (List.mem_of_getElem? (i := 43) rfl))) (Or.inr (hw _ (List.mem_of_getElem? (i := 33) rfl))) (by decide) (t := .double) (t' := .double) (by decide) (by decide)))
  have f34 : Fld Z h4 a1 "com/example/antechamber/antechamber/bench/Run$Result" "cpuSeconds" "D" (.double (0 : UInt64)) := f22.other W4 (Or.inr (slot_ne (Or.inr (hw _ (List.mem_of_getElem? (i := 45) rfl))) (Or.inr (hw _ (List.mem_of_getElem? (i := 33) rfl))) (by decide) (t := .double) (t' := .double) (by decide) (by decide)))
  have f35 : n0 ≤ a1 := f23
  have f36 : Keep h0 h4 [a1] := f24.wr W4 (Or.inl (by simp))
  have N4 := Fr.snoc X4 N3 f35
  have Z4 : n0 ≤ h4.size := by rw [W4.size]; exact Z3
  obtain ⟨T5, h5, X5, e5, W5, st5⟩ := putF X4 hx hZ hown (host := "") (Or.inl (hw _ (List.mem_of_getElem? (i := 34) rfl))) Via.refl e4 f29 f25 (Or.inr ⟨(hw _ (List.mem_of_getElem? (i := 35) rfl)), rfl, hnm⟩) (hw _ (List.mem_of_getElem? (i := 7) rfl)) (ty := .long) (by decide) rfl rfl (g := (mkF m 23 #[.val (.ref a1), .val (.ref a2), .val (.double d3), .second, .val (.double d4), .second, .val (.long q5), .second, .val (.long q6), .second, .val (.long q7), .second, .val (.double d8), .second, .val (.double d9), .second, .val (.double d10), .second] [(.long q5), (.ref a1)])) rfl rfl (hb hby d2_23)
  have f37 : Exa Z h5 a1 "com/example/antechamber/antechamber/bench/Run$Result" := f25.wr W5
  have f38 : Fld Z h5 a1 "com/example/antechamber/antechamber/bench/Run$Result" "design" "Ljava/lang/String;" (.ref a2) := f26.other W5 (Or.inr (slot_ne (Or.inr (hw _ (List.mem_of_getElem? (i := 29) rfl))) (Or.inr (hw _ (List.mem_of_getElem? (i := 35) rfl))) (by decide) (t := (.object "java/lang/String")) (t' := .long) (by decide) (by decide)))
  have f39 : Fld Z h5 a1 "com/example/antechamber/antechamber/bench/Run$Result" "targetRate" "D" (.double d3) := f27.other W5 (Or.inr (slot_ne (Or.inr (hw _ (List.mem_of_getElem? (i := 31) rfl))) (Or.inr (hw _ (List.mem_of_getElem? (i := 35) rfl))) (by decide) (t := .double) (t' := .long) (by decide) (by decide)))
  have f40 : Fld Z h5 a1 "com/example/antechamber/antechamber/bench/Run$Result" "achievedRate" "D" (.double d4) := f28.other W5 (Or.inr (slot_ne (Or.inr (hw _ (List.mem_of_getElem? (i := 33) rfl))) (Or.inr (hw _ (List.mem_of_getElem? (i := 35) rfl))) (by decide) (t := .double) (t' := .long) (by decide) (by decide)))
  have f41 : Fld Z h5 a1 "com/example/antechamber/antechamber/bench/Run$Result" "requests" "J" (.long q5) := f29.same W5
  have f42 : Fld Z h5 a1 "com/example/antechamber/antechamber/bench/Run$Result" "satisfied" "J" (.long (0 : Int64)) := f30.other W5 (Or.inr (slot_ne (Or.inr (hw _ (List.mem_of_getElem? (i := 37) rfl))) (Or.inr (hw _ (List.mem_of_getElem? (i := 35) rfl))) (by decide) (t := .long) (t' := .long) (by decide) (by decide)))
  have f43 : Fld Z h5 a1 "com/example/antechamber/antechamber/bench/Run$Result" "timedOut" "J" (.long (0 : Int64)) := f31.other W5 (Or.inr (slot_ne (Or.inr (hw _ (List.mem_of_getElem? (i := 39) rfl))) (Or.inr (hw _ (List.mem_of_getElem? (i := 35) rfl))) (by decide) (t := .long) (t' := .long) (by decide) (by decide)))
  have f44 : Fld Z h5 a1 "com/example/antechamber/antechamber/bench/Run$Result" "meanPending" "D" (.double (0 : UInt64)) := f32.other W5 (Or.inr (slot_ne (Or.inr (hw _ (List.mem_of_getElem? (i := 41) rfl))) (Or.inr (hw _ (List.mem_of_getElem? (i := 35) rfl))) (by decide) (t := .double) (t' := .long) (by decide) (by decide)))
  have f45 : Fld Z h5 a1 "com/example/antechamber/antechamber/bench/Run$Result" "meanHoldMs" "D" (.double (0 : UInt64)) := f33.other W5 (Or.inr (slot_ne (Or.inr (hw _ (List.mem_of_getElem? (i := 43) rfl))) (Or.inr (hw _ (List.mem_of_getElem? (i := 35) rfl))) (by decide) (t := .double) (t' := .long) (by decide) (by decide)))
  have f46 : Fld Z h5 a1 "com/example/antechamber/antechamber/bench/Run$Result" "cpuSeconds" "D" (.double (0 : UInt64)) := f34.other W5 (Or.inr (slot_ne (Or.inr (hw _ (List.mem_of_getElem? (i := 45) rfl))) (Or.inr (hw _ (List.mem_of_getElem? (i := 35) rfl))) (by decide) (t := .double) (t' := .long) (by decide) (by decide)))
  have f47 : n0 ≤ a1 := f35
  have f48 : Keep h0 h5 [a1] := f36.wr W5 (Or.inl (by simp))
  have N5 := Fr.snoc X5 N4 f47
  have Z5 : n0 ≤ h5.size := by rw [W5.size]; exact Z4
  obtain ⟨T6, h6, X6, e6, W6, st6⟩ := putF X5 hx hZ hown (host := "") (Or.inl (hw _ (List.mem_of_getElem? (i := 36) rfl))) Via.refl e5 f42 f37 (Or.inr ⟨(hw _ (List.mem_of_getElem? (i := 37) rfl)), rfl, hnm⟩) (hw _ (List.mem_of_getElem? (i := 7) rfl)) (ty := .long) (by decide) rfl rfl (g := (mkF m 29 #[.val (.ref a1), .val (.ref a2), .val (.double d3), .second, .val (.double d4), .second, .val (.long q5), .second, .val (.long q6), .second, .val (.long q7), .second, .val (.double d8), .second, .val (.double d9), .second, .val (.double d10), .second] [(.long q6), (.ref a1)])) rfl rfl (hb hby d2_29)
  have f49 : Exa Z h6 a1 "com/example/antechamber/antechamber/bench/Run$Result" := f37.wr W6
  have f50 : Fld Z h6 a1 "com/example/antechamber/antechamber/bench/Run$Result" "design" "Ljava/lang/String;" (.ref a2) := f38.other W6 (Or.inr (slot_ne (Or.inr (hw _ (List.mem_of_getElem? (i := 29) rfl))) (Or.inr (hw _ (List.mem_of_getElem? (i := 37) rfl))) (by decide) (t := (.object "java/lang/String")) (t' := .long) (by decide) (by decide)))
  have f51 : Fld Z h6 a1 "com/example/antechamber/antechamber/bench/Run$Result" "targetRate" "D" (.double d3) := f39.other W6 (Or.inr (slot_ne (Or.inr (hw _ (List.mem_of_getElem? (i := 31) rfl))) (Or.inr (hw _ (List.mem_of_getElem? (i := 37) rfl))) (by decide) (t := .double) (t' := .long) (by decide) (by decide)))
  have f52 : Fld Z h6 a1 "com/example/antechamber/antechamber/bench/Run$Result" "achievedRate" "D" (.double d4) := f40.other W6 (Or.inr (slot_ne (Or.inr (hw _ (List.mem_of_getElem? (i := 33) rfl))) (Or.inr (hw _ (List.mem_of_getElem? (i := 37) rfl))) (by decide) (t := .double) (t' := .long) (by decide) (by decide)))
  have f53 : Fld Z h6 a1 "com/example/antechamber/antechamber/bench/Run$Result" "requests" "J" (.long q5) := f41.other W6 (Or.inr (slot_ne (Or.inr (hw _ (List.mem_of_getElem? (i := 35) rfl))) (Or.inr (hw _ (List.mem_of_getElem? (i := 37) rfl))) (by decide) (t := .long) (t' := .long) (by decide) (by decide)))
  have f54 : Fld Z h6 a1 "com/example/antechamber/antechamber/bench/Run$Result" "satisfied" "J" (.long q6) := f42.same W6
  have f55 : Fld Z h6 a1 "com/example/antechamber/antechamber/bench/Run$Result" "timedOut" "J" (.long (0 : Int64)) := f43.other W6 (Or.inr (slot_ne (Or.inr (hw _ (List.mem_of_getElem? (i := 39) rfl))) (Or.inr (hw _ (List.mem_of_getElem? (i := 37) rfl))) (by decide) (t := .long) (t' := .long) (by decide) (by decide)))
  have f56 : Fld Z h6 a1 "com/example/antechamber/antechamber/bench/Run$Result" "meanPending" "D" (.double (0 : UInt64)) := f44.other W6 (Or.inr (slot_ne (Or.inr (hw _ (List.mem_of_getElem? (i := 41) rfl))) (Or.inr (hw _ (List.mem_of_getElem? (i := 37) rfl))) (by decide) (t := .double) (t' := .long) (by decide) (by decide)))
  have f57 : Fld Z h6 a1 "com/example/antechamber/antechamber/bench/Run$Result" "meanHoldMs" "D" (.double (0 : UInt64)) := f45.other W6 (Or.inr (slot_ne (Or.inr (hw _ (List.mem_of_getElem? (i := 43) rfl))) (Or.inr (hw _ (List.mem_of_getElem? (i := 37) rfl))) (by decide) (t := .double) (t' := .long) (by decide) (by decide)))
  have f58 : Fld Z h6 a1 "com/example/antechamber/antechamber/bench/Run$Result" "cpuSeconds" "D" (.double (0 : UInt64)) := f46.other W6 (Or.inr (slot_ne (Or.inr (hw _ (List.mem_of_getElem? (i := 45) rfl))) (Or.inr (hw _ (List.mem_of_getElem? (i := 37) rfl))) (by decide) (t := .double) (t' := .long) (by decide) (by decide)))
  have f59 : n0 ≤ a1 := f47
  have f60 : Keep h0 h6 [a1] := f48.wr W6 (Or.inl (by simp))
  have N6 := Fr.snoc X6 N5 f59
  have Z6 : n0 ≤ h6.size := by rw [W6.size]; exact Z5
  obtain ⟨T7, h7, X7, e7, W7, st7⟩ := putF X6 hx hZ hown (host := "") (Or.inl (hw _ (List.mem_of_getElem? (i := 38) rfl))) Via.refl e6 f55 f49 (Or.inr ⟨(hw _ (List.mem_of_getElem? (i := 39) rfl)), rfl, hnm⟩) (hw _ (List.mem_of_getElem? (i := 7) rfl)) (ty := .long) (by decide) rfl rfl (g := (mkF m 35 #[.val (.ref a1), .val (.ref a2), .val (.double d3), .second, .val (.double d4), .second, .val (.long q5), .second, .val (.long q6), .second, .val (.long q7), .second, .val (.double d8), .second, .val (.double d9), .second, .val (.double d10), .second] [(.long q7), (.ref a1)])) rfl rfl (hb hby d2_35)
  have f61 : Exa Z h7 a1 "com/example/antechamber/antechamber/bench/Run$Result" := f49.wr W7
  have f62 : Fld Z h7 a1 "com/example/antechamber/antechamber/bench/Run$Result" "design" "Ljava/lang/String;" (.ref a2) := f50.other W7 (Or.inr (slot_ne (Or.inr (hw _ (List.mem_of_getElem? (i := 29) rfl))) (Or.inr (hw _ (List.mem_of_getElem? (i := 39) rfl))) (by decide) (t := (.object "java/lang/String")) (t' := .long) (by decide) (by decide)))
  have f63 : Fld Z h7 a1 "com/example/antechamber/antechamber/bench/Run$Result" "targetRate" "D" (.double d3) := f51.other W7 (Or.inr (slot_ne (Or.inr (hw _ (List.mem_of_getElem? (i := 31) rfl))) (Or.inr (hw _ (List.mem_of_getElem? (i := 39) rfl))) (by decide) (t := .double) (t' := .long) (by decide) (by decide)))
  have f64 : Fld Z h7 a1 "com/example/antechamber/antechamber/bench/Run$Result" "achievedRate" "D" (.double d4) := f52.other W7 (Or.inr (slot_ne (Or.inr (hw _ (List.mem_of_getElem? (i := 33) rfl))) (Or.inr (hw _ (List.mem_of_getElem? (i := 39) rfl))) (by decide) (t := .double) (t' := .long) (by decide) (by decide)))
  have f65 : Fld Z h7 a1 "com/example/antechamber/antechamber/bench/Run$Result" "requests" "J" (.long q5) := f53.other W7 (Or.inr (slot_ne (Or.inr (hw _ (List.mem_of_getElem? (i := 35) rfl))) (Or.inr (hw _ (List.mem_of_getElem? (i := 39) rfl))) (by decide) (t := .long) (t' := .long) (by decide) (by decide)))
  have f66 : Fld Z h7 a1 "com/example/antechamber/antechamber/bench/Run$Result" "satisfied" "J" (.long q6) := f54.other W7 (Or.inr (slot_ne (Or.inr (hw _ (List.mem_of_getElem? (i := 37) rfl))) (Or.inr (hw _ (List.mem_of_getElem? (i := 39) rfl))) (by decide) (t := .long) (t' := .long) (by decide) (by decide)))
  have f67 : Fld Z h7 a1 "com/example/antechamber/antechamber/bench/Run$Result" "timedOut" "J" (.long q7) := f55.same W7
  have f68 : Fld Z h7 a1 "com/example/antechamber/antechamber/bench/Run$Result" "meanPending" "D" (.double (0 : UInt64)) := f56.other W7 (Or.inr (slot_ne (Or.inr (hw _ (List.mem_of_getElem? (i := 41) rfl))) (Or.inr (hw _ (List.mem_of_getElem? (i := 39) rfl))) (by decide) (t := .double) (t' := .long) (by decide) (by decide)))
  have f69 : Fld Z h7 a1 "com/example/antechamber/antechamber/bench/Run$Result" "meanHoldMs" "D" (.double (0 : UInt64)) := f57.other W7 (Or.inr (slot_ne (Or.inr (hw _ (List.mem_of_getElem? (i := 43) rfl))) (Or.inr (hw _ (List.mem_of_getElem? (i := 39) rfl))) (by decide) (t := .double) (t' := .long) (by decide) (by decide)))
  have f70 : Fld Z h7 a1 "com/example/antechamber/antechamber/bench/Run$Result" "cpuSeconds" "D" (.double (0 : UInt64)) := f58.other W7 (Or.inr (slot_ne (Or.inr (hw _ (List.mem_of_getElem? (i := 45) rfl))) (Or.inr (hw _ (List.mem_of_getElem? (i := 39) rfl))) (by decide) (t := .double) (t' := .long) (by decide) (by decide)))
  have f71 : n0 ≤ a1 := f59
  have f72 : Keep h0 h7 [a1] := f60.wr W7 (Or.inl (by simp))
  have N7 := Fr.snoc X7 N6 f71
  have Z7 : n0 ≤ h7.size := by rw [W7.size]; exact Z6
  obtain ⟨T8, h8, X8, e8, W8, st8⟩ := putF X7 hx hZ hown (host := "") (Or.inl (hw _ (List.mem_of_getElem? (i := 40) rfl))) Via.refl e7 f68 f61 (Or.inr ⟨(hw _ (List.mem_of_getElem? (i := 41) rfl)), rfl, hnm⟩) (hw _ (List.mem_of_getElem? (i := 7) rfl)) (ty := .double) (by decide) rfl rfl (g := (mkF m 41 #[.val (.ref a1), .val (.ref a2), .val (.double d3), .second, .val (.double d4), .second, .val (.long q5), .second, .val (.long q6), .second, .val (.long q7), .second, .val (.double d8), .second, .val (.double d9), .second, .val (.double d10), .second] [(.double d8), (.ref a1)])) rfl rfl (hb hby d2_41)
  have f73 : Exa Z h8 a1 "com/example/antechamber/antechamber/bench/Run$Result" := f61.wr W8
  have f74 : Fld Z h8 a1 "com/example/antechamber/antechamber/bench/Run$Result" "design" "Ljava/lang/String;" (.ref a2) := f62.other W8 (Or.inr (slot_ne (Or.inr (hw _ (List.mem_of_getElem? (i := 29) rfl))) (Or.inr (hw _ (List.mem_of_getElem? (i := 41) rfl))) (by decide) (t := (.object "java/lang/String")) (t' := .double) (by decide) (by decide)))
  have f75 : Fld Z h8 a1 "com/example/antechamber/antechamber/bench/Run$Result" "targetRate" "D" (.double d3) := f63.other W8 (Or.inr (slot_ne (Or.inr (hw _ (List.mem_of_getElem? (i := 31) rfl))) (Or.inr (hw _ (List.mem_of_getElem? (i := 41) rfl))) (by decide) (t := .double) (t' := .double) (by decide) (by decide)))
  have f76 : Fld Z h8 a1 "com/example/antechamber/antechamber/bench/Run$Result" "achievedRate" "D" (.double d4) := f64.other W8 (Or.inr (slot_ne (Or.inr (hw _ (List.mem_of_getElem? (i := 33) rfl))) (Or.inr (hw _ (List.mem_of_getElem? (i := 41) rfl))) (by decide) (t := .double) (t' := .double) (by decide) (by decide)))
  have f77 : Fld Z h8 a1 "com/example/antechamber/antechamber/bench/Run$Result" "requests" "J" (.long q5) := f65.other W8 (Or.inr (slot_ne (Or.inr (hw _ (List.mem_of_getElem? (i := 35) rfl))) (Or.inr (hw _ (List.mem_of_getElem? (i := 41) rfl))) (by decide) (t := .long) (t' := .double) (by decide) (by decide)))
  have f78 : Fld Z h8 a1 "com/example/antechamber/antechamber/bench/Run$Result" "satisfied" "J" (.long q6) := f66.other W8 (Or.inr (slot_ne (Or.inr (hw _ (List.mem_of_getElem? (i := 37) rfl))) (Or.inr (hw _ (List.mem_of_getElem? (i := 41) rfl))) (by decide) (t := .long) (t' := .double) (by decide) (by decide)))
  have f79 : Fld Z h8 a1 "com/example/antechamber/antechamber/bench/Run$Result" "timedOut" "J" (.long q7) := f67.other W8 (Or.inr (slot_ne (Or.inr (hw _ (List.mem_of_getElem? (i := 39) rfl))) (Or.inr (hw _ (List.mem_of_getElem? (i := 41) rfl))) (by decide) (t := .long) (t' := .double) (by decide) (by decide)))
  have f80 : Fld Z h8 a1 "com/example/antechamber/antechamber/bench/Run$Result" "meanPending" "D" (.double d8) := f68.same W8
  have f81 : Fld Z h8 a1 "com/example/antechamber/antechamber/bench/Run$Result" "meanHoldMs" "D" (.double (0 : UInt64)) := f69.other W8 (Or.inr (slot_ne (Or.inr (hw _ (List.mem_of_getElem? (i := 43) rfl))) (Or.inr (hw _ (List.mem_of_getElem? (i := 41) rfl))) (by decide) (t := .double) (t' := .double) (by decide) (by decide)))
  have f82 : Fld Z h8 a1 "com/example/antechamber/antechamber/bench/Run$Result" "cpuSeconds" "D" (.double (0 : UInt64)) := f70.other W8 (Or.inr (slot_ne (Or.inr (hw _ (List.mem_of_getElem? (i := 45) rfl))) (Or.inr (hw _ (List.mem_of_getElem? (i := 41) rfl))) (by decide) (t := .double) (t' := .double) (by decide) (by decide)))
  have f83 : n0 ≤ a1 := f71
  have f84 : Keep h0 h8 [a1] := f72.wr W8 (Or.inl (by simp))
  have N8 := Fr.snoc X8 N7 f83
  have Z8 : n0 ≤ h8.size := by rw [W8.size]; exact Z7
  obtain ⟨T9, h9, X9, e9, W9, st9⟩ := putF X8 hx hZ hown (host := "") (Or.inl (hw _ (List.mem_of_getElem? (i := 42) rfl))) Via.refl e8 f81 f73 (Or.inr ⟨(hw _ (List.mem_of_getElem? (i := 43) rfl)), rfl, hnm⟩) (hw _ (List.mem_of_getElem? (i := 7) rfl)) (ty := .double) (by decide) rfl rfl (g := (mkF m 47 #[.val (.ref a1), .val (.ref a2), .val (.double d3), .second, .val (.double d4), .second, .val (.long q5), .second, .val (.long q6), .second, .val (.long q7), .second, .val (.double d8), .second, .val (.double d9), .second, .val (.double d10), .second] [(.double d9), (.ref a1)])) rfl rfl (hb hby d2_47)
  have f85 : Exa Z h9 a1 "com/example/antechamber/antechamber/bench/Run$Result" := f73.wr W9
  have f86 : Fld Z h9 a1 "com/example/antechamber/antechamber/bench/Run$Result" "design" "Ljava/lang/String;" (.ref a2) := f74.other W9 (Or.inr (slot_ne (Or.inr (hw _ (List.mem_of_getElem? (i := 29) rfl))) (Or.inr (hw _ (List.mem_of_getElem? (i := 43) rfl))) (by decide) (t := (.object "java/lang/String")) (t' := .double) (by decide) (by decide)))
  have f87 : Fld Z h9 a1 "com/example/antechamber/antechamber/bench/Run$Result" "targetRate" "D" (.double d3) := f75.other W9 (Or.inr (slot_ne (Or.inr (hw _ (List.mem_of_getElem? (i := 31) rfl))) (Or.inr (hw _ (List.mem_of_getElem? (i := 43) rfl))) (by decide) (t := .double) (t' := .double) (by decide) (by decide)))
  have f88 : Fld Z h9 a1 "com/example/antechamber/antechamber/bench/Run$Result" "achievedRate" "D" (.double d4) := f76.other W9 (Or.inr (slot_ne (Or.inr (hw _ (List.mem_of_getElem? (i := 33) rfl))) (Or.inr (hw _ (List.mem_of_getElem? (i := 43) rfl))) (by decide) (t := .double) (t' := .double) (by decide) (by decide)))
  have f89 : Fld Z h9 a1 "com/example/antechamber/antechamber/bench/Run$Result" "requests" "J" (.long q5) := f77.other W9 (Or.inr (slot_ne (Or.inr (hw _ (List.mem_of_getElem? (i := 35) rfl))) (Or.inr (hw _ (List.mem_of_getElem? (i := 43) rfl))) (by decide) (t := .long) (t' := .double) (by decide) (by decide)))
  have f90 : Fld Z h9 a1 "com/example/antechamber/antechamber/bench/Run$Result" "satisfied" "J" (.long q6) := f78.other W9 (Or.inr (slot_ne (Or.inr (hw _ (List.mem_of_getElem? (i := 37) rfl))) (Or.inr (hw _ (List.mem_of_getElem? (i := 43) rfl))) (by decide) (t := .long) (t' := .double) (by decide) (by decide)))
  have f91 : Fld Z h9 a1 "com/example/antechamber/antechamber/bench/Run$Result" "timedOut" "J" (.long q7) := f79.other W9 (Or.inr (slot_ne (Or.inr (hw _ (List.mem_of_getElem? (i := 39) rfl))) (Or.inr (hw _ (List.mem_of_getElem? (i := 43) rfl))) (by decide) (t := .long) (t' := .double) (by decide) (by decide)))
  have f92 : Fld Z h9 a1 "com/example/antechamber/antechamber/bench/Run$Result" "meanPending" "D" (.double d8) := f80.other W9 (Or.inr (slot_ne (Or.inr (hw _ (List.mem_of_getElem? (i := 41) rfl))) (Or.inr (hw _ (List.mem_of_getElem? (i := 43) rfl))) (by decide) (t := .double) (t' := .double) (by decide) (by decide)))
  have f93 : Fld Z h9 a1 "com/example/antechamber/antechamber/bench/Run$Result" "meanHoldMs" "D" (.double d9) := f81.same W9
  have f94 : Fld Z h9 a1 "com/example/antechamber/antechamber/bench/Run$Result" "cpuSeconds" "D" (.double (0 : UInt64)) := f82.other W9 (Or.inr (slot_ne (Or.inr (hw _ (List.mem_of_getElem? (i := 45) rfl))) (Or.inr (hw _ (List.mem_of_getElem? (i := 43) rfl))) (by decide) (t := .double) (t' := .double) (by decide) (by decide)))
  have f95 : n0 ≤ a1 := f83
  have f96 : Keep h0 h9 [a1] := f84.wr W9 (Or.inl (by simp))
  have N9 := Fr.snoc X9 N8 f95
  have Z9 : n0 ≤ h9.size := by rw [W9.size]; exact Z8
  obtain ⟨T10, h10, X10, e10, W10, st10⟩ := putF X9 hx hZ hown (host := "") (Or.inl (hw _ (List.mem_of_getElem? (i := 44) rfl))) Via.refl e9 f94 f85 (Or.inr ⟨(hw _ (List.mem_of_getElem? (i := 45) rfl)), rfl, hnm⟩) (hw _ (List.mem_of_getElem? (i := 7) rfl)) (ty := .double) (by decide) rfl rfl (g := (mkF m 53 #[.val (.ref a1), .val (.ref a2), .val (.double d3), .second, .val (.double d4), .second, .val (.long q5), .second, .val (.long q6), .second, .val (.long q7), .second, .val (.double d8), .second, .val (.double d9), .second, .val (.double d10), .second] [(.double d10), (.ref a1)])) rfl rfl (hb hby d2_53)
  have f97 : Exa Z h10 a1 "com/example/antechamber/antechamber/bench/Run$Result" := f85.wr W10
  have f98 : Fld Z h10 a1 "com/example/antechamber/antechamber/bench/Run$Result" "design" "Ljava/lang/String;" (.ref a2) := f86.other W10 (Or.inr (slot_ne (Or.inr (hw _ (List.mem_of_getElem? (i := 29) rfl))) (Or.inr (hw _ (List.mem_of_getElem? (i := 45) rfl))) (by decide) (t := (.object "java/lang/String")) (t' := .double) (by decide) (by decide)))
  have f99 : Fld Z h10 a1 "com/example/antechamber/antechamber/bench/Run$Result" "targetRate" "D" (.double d3) := f87.other W10 (Or.inr (slot_ne (Or.inr (hw _ (List.mem_of_getElem? (i := 31) rfl))) (Or.inr (hw _ (List.mem_of_getElem? (i := 45) rfl))) (by decide) (t := .double) (t' := .double) (by decide) (by decide)))
  have f100 : Fld Z h10 a1 "com/example/antechamber/antechamber/bench/Run$Result" "achievedRate" "D" (.double d4) := f88.other W10 (Or.inr (slot_ne (Or.inr (hw _ (List.mem_of_getElem? (i := 33) rfl))) (Or.inr (hw _ (List.mem_of_getElem? (i := 45) rfl))) (by decide) (t := .double) (t' := .double) (by decide) (by decide)))
  have f101 : Fld Z h10 a1 "com/example/antechamber/antechamber/bench/Run$Result" "requests" "J" (.long q5) := f89.other W10 (Or.inr (slot_ne (Or.inr (hw _ (List.mem_of_getElem? (i := 35) rfl))) (Or.inr (hw _ (List.mem_of_getElem? (i := 45) rfl))) (by decide) (t := .long) (t' := .double) (by decide) (by decide)))
  have f102 : Fld Z h10 a1 "com/example/antechamber/antechamber/bench/Run$Result" "satisfied" "J" (.long q6) := f90.other W10 (Or.inr (slot_ne (Or.inr (hw _ (List.mem_of_getElem? (i := 37) rfl))) (Or.inr (hw _ (List.mem_of_getElem? (i := 45) rfl))) (by decide) (t := .long) (t' := .double) (by decide) (by decide)))
  have f103 : Fld Z h10 a1 "com/example/antechamber/antechamber/bench/Run$Result" "timedOut" "J" (.long q7) := f91.other W10 (Or.inr (slot_ne (Or.inr (hw _ (List.mem_of_getElem? (i := 39) rfl))) (Or.inr (hw _ (List.mem_of_getElem? (i := 45) rfl))) (by decide) (t := .long) (t' := .double) (by decide) (by decide)))
  have f104 : Fld Z h10 a1 "com/example/antechamber/antechamber/bench/Run$Result" "meanPending" "D" (.double d8) := f92.other W10 (Or.inr (slot_ne (Or.inr (hw _ (List.mem_of_getElem? (i := 41) rfl))) (Or.inr (hw _ (List.mem_of_getElem? (i := 45) rfl))) (by decide) (t := .double) (t' := .double) (by decide) (by decide)))
  have f105 : Fld Z h10 a1 "com/example/antechamber/antechamber/bench/Run$Result" "meanHoldMs" "D" (.double d9) := f93.other W10 (Or.inr (slot_ne (Or.inr (hw _ (List.mem_of_getElem? (i := 43) rfl))) (Or.inr (hw _ (List.mem_of_getElem? (i := 45) rfl))) (by decide) (t := .double) (t' := .double) (by decide) (by decide)))
  have f106 : Fld Z h10 a1 "com/example/antechamber/antechamber/bench/Run$Result" "cpuSeconds" "D" (.double d10) := f94.same W10
  have f107 : n0 ≤ a1 := f95
  have f108 : Keep h0 h10 [a1] := f96.wr W10 (Or.inl (by simp))
  have N10 := Fr.snoc X10 N9 f107
  have Z10 : n0 ≤ h10.size := by rw [W10.size]; exact Z9
  obtain ⟨fs, hr, hrun, hended, hW, hsame⟩ := X10.leave (v := none) (fun _ => rfl) (hlocks := Bd.notSynchronized)
  refine ⟨_, _, pre0 _ ?_, hrun, hended, _, _, rfl, ?_, ⟨_, rfl⟩, hW, hsame.mono (by decide) (by decide)⟩
  · show Steps p.tables e below (s₁.setTop (mkF m 0 #[.val (.ref a1), .val (.ref a2), .val (.double d3), .second, .val (.double d4), .second, .val (.long q5), .second, .val (.long q6), .second, .val (.long q7), .second, .val (.double d8), .second, .val (.double d9), .second, .val (.double d10), .second] [])) _
    refine XS.aloadN X0.here hx rfl (hb hby d2_0) rfl rfl ?_
    show Steps p.tables e below (s₁.setTop (mkF m 1 #[.val (.ref a1), .val (.ref a2), .val (.double d3), .second, .val (.double d4), .second, .val (.long q5), .second, .val (.long q6), .second, .val (.long q7), .second, .val (.double d8), .second, .val (.double d9), .second, .val (.double d10), .second] [(.ref a1)])) _
    refine st1.trans ?_
    show Steps p.tables e below (T1.setTop (mkF m 4 #[.val (.ref a1), .val (.ref a2), .val (.double d3), .second, .val (.double d4), .second, .val (.long q5), .second, .val (.long q6), .second, .val (.long q7), .second, .val (.double d8), .second, .val (.double d9), .second, .val (.double d10), .second] [])) _
    refine XS.aloadN X1.here hx rfl (hb hby d2_4) rfl rfl ?_
    show Steps p.tables e below (T1.setTop (mkF m 5 #[.val (.ref a1), .val (.ref a2), .val (.double d3), .second, .val (.double d4), .second, .val (.long q5), .second, .val (.long q6), .second, .val (.long q7), .second, .val (.double d8), .second, .val (.double d9), .second, .val (.double d10), .second] [(.ref a1)])) _
    refine XS.aloadN X1.here hx rfl (hb hby d2_5) rfl rfl ?_
    show Steps p.tables e below (T1.setTop (mkF m 6 #[.val (.ref a1), .val (.ref a2), .val (.double d3), .second, .val (.double d4), .second, .val (.long q5), .second, .val (.long q6), .second, .val (.long q7), .second, .val (.double d8), .second, .val (.double d9), .second, .val (.double d10), .second] [(.ref a2), (.ref a1)])) _
    refine st2 _ ?_
    show Steps p.tables e below (T2.setTop (mkF m 9 #[.val (.ref a1), .val (.ref a2), .val (.double d3), .second, .val (.double d4), .second, .val (.long q5), .second, .val (.long q6), .second, .val (.long q7), .second, .val (.double d8), .second, .val (.double d9), .second, .val (.double d10), .second] [])) _
    refine XS.aloadN X2.here hx rfl (hb hby d2_9) rfl rfl ?_
    show Steps p.tables e below (T2.setTop (mkF m 10 #[.val (.ref a1), .val (.ref a2), .val (.double d3), .second, .val (.double d4), .second, .val (.long q5), .second, .val (.long q6), .second, .val (.long q7), .second, .val (.double d8), .second, .val (.double d9), .second, .val (.double d10), .second] [(.ref a1)])) _
    refine XS.dloadN X2.here hx rfl (hb hby d2_10) rfl ?_
    show Steps p.tables e below (T2.setTop (mkF m 11 #[.val (.ref a1), .val (.ref a2), .val (.double d3), .second, .val (.double d4), .second, .val (.long q5), .second, .val (.long q6), .second, .val (.long q7), .second, .val (.double d8), .second, .val (.double d9), .second, .val (.double d10), .second] [(.double d3), (.ref a1)])) _
    refine st3 _ ?_
    show Steps p.tables e below (T3.setTop (mkF m 14 #[.val (.ref a1), .val (.ref a2), .val (.double d3), .second, .val (.double d4), .second, .val (.long q5), .second, .val (.long q6), .second, .val (.long q7), .second, .val (.double d8), .second, .val (.double d9), .second, .val (.double d10), .second] [])) _
    refine XS.aloadN X3.here hx rfl (hb hby d2_14) rfl rfl ?_
    show Steps p.tables e below (T3.setTop (mkF m 15 #[.val (.ref a1), .val (.ref a2), .val (.double d3), .second, .val (.double d4), .second, .val (.long q5), .second, .val (.long q6), .second, .val (.long q7), .second, .val (.double d8), .second, .val (.double d9), .second, .val (.double d10), .second] [(.ref a1)])) _
    refine XS.dload X3.here hx rfl (hb hby d2_15) rfl ?_
    show Steps p.tables e below (T3.setTop (mkF m 17 #[.val (.ref a1), .val (.ref a2), .val (.double d3), .second, .val (.double d4), .second, .val (.long q5), .second, .val (.long q6), .second, .val (.long q7), .second, .val (.double d8), .second, .val (.double d9), .second, .val (.double d10), .second] [(.double d4), (.ref a1)])) _
    refine st4 _ ?_
    show Steps p.tables e below (T4.setTop (mkF m 20 #[.val (.ref a1), .val (.ref a2), .val (.double d3), .second, .val (.double d4), .second, .val (.long q5), .second, .val (.long q6), .second, .val (.long q7), .second, .val (.double d8), .second, .val (.double d9), .second, .val (.double d10), .second] [])) _
    refine XS.aloadN X4.here hx rfl (hb hby d2_20) rfl rfl ?_
    show Steps p.tables e below (T4.setTop (mkF m 21 #[.val (.ref a1), .val (.ref a2), .val (.double d3), .second, .val (.double d4), .second, .val (.long q5), .second, .val (.long q6), .second, .val (.long q7), .second, .val (.double d8), .second, .val (.double d9), .second, .val (.double d10), .second] [(.ref a1)])) _
    refine XS.lload X4.here hx rfl (hb hby d2_21) rfl ?_
    show Steps p.tables e below (T4.setTop (mkF m 23 #[.val (.ref a1), .val (.ref a2), .val (.double d3), .second, .val (.double d4), .second, .val (.long q5), .second, .val (.long q6), .second, .val (.long q7), .second, .val (.double d8), .second, .val (.double d9), .second, .val (.double d10), .second] [(.long q5), (.ref a1)])) _
    refine st5 _ ?_
    show Steps p.tables e below (T5.setTop (mkF m 26 #[.val (.ref a1), .val (.ref a2), .val (.double d3), .second, .val (.double d4), .second, .val (.long q5), .second, .val (.long q6), .second, .val (.long q7), .second, .val (.double d8), .second, .val (.double d9), .second, .val (.double d10), .second] [])) _
    refine XS.aloadN X5.here hx rfl (hb hby d2_26) rfl rfl ?_
    show Steps p.tables e below (T5.setTop (mkF m 27 #[.val (.ref a1), .val (.ref a2), .val (.double d3), .second, .val (.double d4), .second, .val (.long q5), .second, .val (.long q6), .second, .val (.long q7), .second, .val (.double d8), .second, .val (.double d9), .second, .val (.double d10), .second] [(.ref a1)])) _
    refine XS.lload X5.here hx rfl (hb hby d2_27) rfl ?_
    show Steps p.tables e below (T5.setTop (mkF m 29 #[.val (.ref a1), .val (.ref a2), .val (.double d3), .second, .val (.double d4), .second, .val (.long q5), .second, .val (.long q6), .second, .val (.long q7), .second, .val (.double d8), .second, .val (.double d9), .second, .val (.double d10), .second] [(.long q6), (.ref a1)])) _
    refine st6 _ ?_
    show Steps p.tables e below (T6.setTop (mkF m 32 #[.val (.ref a1), .val (.ref a2), .val (.double d3), .second, .val (.double d4), .second, .val (.long q5), .second, .val (.long q6), .second, .val (.long q7), .second, .val (.double d8), .second, .val (.double d9), .second, .val (.double d10), .second] [])) _
    refine XS.aloadN X6.here hx rfl (hb hby d2_32) rfl rfl ?_
    show Steps p.tables e below (T6.setTop (mkF m 33 #[.val (.ref a1), .val (.ref a2), .val (.double d3), .second, .val (.double d4), .second, .val (.long q5), .second, .val (.long q6), .second, .val (.long q7), .second, .val (.double d8), .second, .val (.double d9), .second, .val (.double d10), .second] [(.ref a1)])) _
    refine XS.lload X6.here hx rfl (hb hby d2_33) rfl ?_
    show Steps p.tables e below (T6.setTop (mkF m 35 #[.val (.ref a1), .val (.ref a2), .val (.double d3), .second, .val (.double d4), .second, .val (.long q5), .second, .val (.long q6), .second, .val (.long q7), .second, .val (.double d8), .second, .val (.double d9), .second, .val (.double d10), .second] [(.long q7), (.ref a1)])) _
    refine st7 _ ?_
    show Steps p.tables e below (T7.setTop (mkF m 38 #[.val (.ref a1), .val (.ref a2), .val (.double d3), .second, .val (.double d4), .second, .val (.long q5), .second, .val (.long q6), .second, .val (.long q7), .second, .val (.double d8), .second, .val (.double d9), .second, .val (.double d10), .second] [])) _
    refine XS.aloadN X7.here hx rfl (hb hby d2_38) rfl rfl ?_
    show Steps p.tables e below (T7.setTop (mkF m 39 #[.val (.ref a1), .val (.ref a2), .val (.double d3), .second, .val (.double d4), .second, .val (.long q5), .second, .val (.long q6), .second, .val (.long q7), .second, .val (.double d8), .second, .val (.double d9), .second, .val (.double d10), .second] [(.ref a1)])) _
    refine XS.dload X7.here hx rfl (hb hby d2_39) rfl ?_
    show Steps p.tables e below (T7.setTop (mkF m 41 #[.val (.ref a1), .val (.ref a2), .val (.double d3), .second, .val (.double d4), .second, .val (.long q5), .second, .val (.long q6), .second, .val (.long q7), .second, .val (.double d8), .second, .val (.double d9), .second, .val (.double d10), .second] [(.double d8), (.ref a1)])) _
    refine st8 _ ?_
    show Steps p.tables e below (T8.setTop (mkF m 44 #[.val (.ref a1), .val (.ref a2), .val (.double d3), .second, .val (.double d4), .second, .val (.long q5), .second, .val (.long q6), .second, .val (.long q7), .second, .val (.double d8), .second, .val (.double d9), .second, .val (.double d10), .second] [])) _
    refine XS.aloadN X8.here hx rfl (hb hby d2_44) rfl rfl ?_
    show Steps p.tables e below (T8.setTop (mkF m 45 #[.val (.ref a1), .val (.ref a2), .val (.double d3), .second, .val (.double d4), .second, .val (.long q5), .second, .val (.long q6), .second, .val (.long q7), .second, .val (.double d8), .second, .val (.double d9), .second, .val (.double d10), .second] [(.ref a1)])) _
    refine XS.dload X8.here hx rfl (hb hby d2_45) rfl ?_
    show Steps p.tables e below (T8.setTop (mkF m 47 #[.val (.ref a1), .val (.ref a2), .val (.double d3), .second, .val (.double d4), .second, .val (.long q5), .second, .val (.long q6), .second, .val (.long q7), .second, .val (.double d8), .second, .val (.double d9), .second, .val (.double d10), .second] [(.double d9), (.ref a1)])) _
    refine st9 _ ?_
    show Steps p.tables e below (T9.setTop (mkF m 50 #[.val (.ref a1), .val (.ref a2), .val (.double d3), .second, .val (.double d4), .second, .val (.long q5), .second, .val (.long q6), .second, .val (.long q7), .second, .val (.double d8), .second, .val (.double d9), .second, .val (.double d10), .second] [])) _
    refine XS.aloadN X9.here hx rfl (hb hby d2_50) rfl rfl ?_
    show Steps p.tables e below (T9.setTop (mkF m 51 #[.val (.ref a1), .val (.ref a2), .val (.double d3), .second, .val (.double d4), .second, .val (.long q5), .second, .val (.long q6), .second, .val (.long q7), .second, .val (.double d8), .second, .val (.double d9), .second, .val (.double d10), .second] [(.ref a1)])) _
    refine XS.dload X9.here hx rfl (hb hby d2_51) rfl ?_
    show Steps p.tables e below (T9.setTop (mkF m 53 #[.val (.ref a1), .val (.ref a2), .val (.double d3), .second, .val (.double d4), .second, .val (.long q5), .second, .val (.long q6), .second, .val (.long q7), .second, .val (.double d8), .second, .val (.double d9), .second, .val (.double d10), .second] [(.double d10), (.ref a1)])) _
    refine st10 _ ?_
    show Steps p.tables e below (T10.setTop (mkF m 56 #[.val (.ref a1), .val (.ref a2), .val (.double d3), .second, .val (.double d4), .second, .val (.long q5), .second, .val (.long q6), .second, .val (.long q7), .second, .val (.double d8), .second, .val (.double d9), .second, .val (.double d10), .second] [])) _
    exact X10.returnOut hx Bd.returns (hb hby d2_56) hr
  · show Q_rm_ini Z a1 a2 d3 d4 q5 q6 q7 d8 d9 d10 h0 n0 _ T10.heap _
    rw [e10]
    exact ⟨rfl, N10, f108, f97, f101, f103⟩
theorem pn_5 : plainName "com/example/antechamber/antechamber/bench/Run$Result" = true := by first | (simp [plainName, overriddenIn]; done) | decide +kernel
theorem ef_rm_fr (m : MethodId) (x0 : Addr) : entryFrame m #[(.ref x0)] 1 = mkF m 0 #[.val (.ref x0)] [] := by first | (simp [entryFrame, mkF, argsToLocals, Value.category]; done) | rfl
def Q_rm_fr (Z : State) (a1 : Addr) (r t : Int64) (h0 : Heap) (n0 : Nat) (v : Option Value) (h : Heap) (L : List Loc) : Prop := v = some (.double (own_fr r t)) ∧ Fr n0 L ∧ h = h0
theorem d5_0 : decode prog_50_method_3_code 0 = .ok (.aload_n 0, 1) := by decide +kernel
theorem d5_1 : decode prog_50_method_3_code 1 = .ok (.getfield 27, 3) := by decide +kernel
theorem d5_4 : decode prog_50_method_3_code 4 = .ok (.l2d, 1) := by decide +kernel
theorem d5_5 : decode prog_50_method_3_code 5 = .ok (.aload_n 0, 1) := by decide +kernel
theorem d5_6 : decode prog_50_method_3_code 6 = .ok (.getfield 20, 3) := by decide +kernel
theorem d5_9 : decode prog_50_method_3_code 9 = .ok (.l2d, 1) := by decide +kernel
theorem d5_10 : decode prog_50_method_3_code 10 = .ok (.ddiv, 1) := by decide +kernel
theorem d5_11 : decode prog_50_method_3_code 11 = .ok (.dreturn, 1) := by decide +kernel
set_option maxRecDepth 65536 in
set_option maxHeartbeats 40000000 in
theorem rm_fr (l : Launch) (Z : State) (a0 : Array Value) (hw : ∀ d ∈ tables_1, d.before a0 Z = true) (ws : List Jvm.Cond) (a1 : Addr) (r t : Int64) (h0 : Heap) (n0 : Nat) (Z0 : n0 ≤ h0.size) (F_r_a1 : Fld Z h0 a1 "com/example/antechamber/antechamber/bench/Run$Result" "requests" "J" (.long r)) (F_t_a1 : Fld Z h0 a1 "com/example/antechamber/antechamber/bench/Run$Result" "timedOut" "J" (.long t)) (hpr : 1 ≤ r.toInt) (hpt : 0 ≤ t.toInt) :
    MetFree l (⟨"com/example/antechamber/antechamber/bench/Run$Result", "timedOutFraction", "()D"⟩ : MethodName) (head1 (Jvm.Cond.code (⟨"com/example/antechamber/antechamber/bench/Run$Result", "timedOutFraction", "()D"⟩ : MethodName) prog_50_method_3_code 1 (some .double) :: ws) ({ frames := 0, cells := 0, slots := 0, locals := 0 } : Room)) (fun a U => a = #[(.ref a1)] ∧ Z.Warmed39 U.vm ∧ U.heap = h0) (fun _ _ _ _ _ => True) (fun _ U o U' => ∃ v L, o = .returned v ∧ Q_rm_fr Z a1 r t h0 n0 v U'.heap L ∧ FrameEnd U o U' L ({ frames := 0, cells := 0, slots := 0, locals := 0 } : Room).cells ({ frames := 0, cells := 0, slots := 0, locals := 0 } : Room).slots) := by
  refine MetFree.of_bodySF (plainFor_of_name pn_5) hisR ?_
  intro p e s m args below meth c s₁ Bd hml0 hP hK
  obtain ⟨rfl, hZ, hh⟩ := hP
  have hx := Bd.exec
  have hby := Bd.bytes
  have hml : c.maxLocals = 1 := hml0
  have hown : s.vm.findClass "com/example/antechamber/antechamber/bench/Run$Result" = some m.cls := findClass_of_methodNamed Bd.named
  have hnm := (name_of_methodNamed Bd.named Bd.method).1
  have X0 : Stand p l e ({ frames := 0, cells := 0, slots := 0, locals := 0 } : Room) s m #[(.ref a1)] below meth c s₁ [] 0 0 := Stand.of_body Bd
  have e0 : s₁.heap = h0 := by rw [← hh, Bd.state]; rfl
  have N0 := Fr.nil n0
  have pre0 : ∀ t, Steps p.tables e below (s₁.setTop (mkF m 0 #[.val (.ref a1)] [])) t → Steps p.tables e below (s₁.setTop (entryFrame m #[(.ref a1)] 1)) t := fun t kt => castTop (ef_rm_fr m a1) kt
  obtain ⟨T1, X1, e1, st1⟩ := getF X0 hx hZ hown (host := "") (Or.inl (hw _ (List.mem_of_getElem? (i := 38) rfl))) Via.refl e0 F_t_a1 (g := (mkF m 1 #[.val (.ref a1)] [(.ref a1)])) rfl rfl (hb hby d5_1)
  obtain ⟨T2, X2, e2, st2⟩ := getF X1 hx hZ hown (host := "") (Or.inl (hw _ (List.mem_of_getElem? (i := 34) rfl))) Via.refl e1 F_r_a1 (g := (mkF m 6 #[.val (.ref a1)] [(.ref a1), (.double (FP.l2d t))])) rfl rfl (hb hby d5_6)
  obtain ⟨fs, hr, hrun, hended, hW, hsame⟩ := X2.leave (v := some (.double (own_fr r t))) (fun h => by rw [Bd.returns] at h; cases h) (hlocks := Bd.notSynchronized)
  refine ⟨_, _, pre0 _ ?_, hrun, hended, _, _, rfl, ?_, ⟨_, rfl⟩, hW, hsame.mono (by decide) (by decide)⟩
  · show Steps p.tables e below (s₁.setTop (mkF m 0 #[.val (.ref a1)] [])) _
    refine XS.aloadN X0.here hx rfl (hb hby d5_0) rfl rfl ?_
    show Steps p.tables e below (s₁.setTop (mkF m 1 #[.val (.ref a1)] [(.ref a1)])) _
    refine st1 _ ?_
    show Steps p.tables e below (T1.setTop (mkF m 4 #[.val (.ref a1)] [(.long t)])) _
    refine XS.l2dS X1.here hx rfl (hb hby d5_4) rfl rfl ?_
    show Steps p.tables e below (T1.setTop (mkF m 5 #[.val (.ref a1)] [(.double (FP.l2d t))])) _
    refine XS.aloadN X1.here hx rfl (hb hby d5_5) rfl rfl ?_
    show Steps p.tables e below (T1.setTop (mkF m 6 #[.val (.ref a1)] [(.ref a1), (.double (FP.l2d t))])) _
    refine st2 _ ?_
    show Steps p.tables e below (T2.setTop (mkF m 9 #[.val (.ref a1)] [(.long r), (.double (FP.l2d t))])) _
    refine XS.l2dS X2.here hx rfl (hb hby d5_9) rfl rfl ?_
    show Steps p.tables e below (T2.setTop (mkF m 10 #[.val (.ref a1)] [(.double (FP.l2d r)), (.double (FP.l2d t))])) _
    refine XS.ddivS X2.here hx rfl (hb hby d5_10) rfl (own_nnfr hpr hpt) rfl ?_
    show Steps p.tables e below (T2.setTop (mkF m 11 #[.val (.ref a1)] [(.double (own_fr r t))])) _
    exact retD X2 hx Bd.returns (hb hby d5_11) hr
  · show Q_rm_fr Z a1 r t h0 n0 _ T2.heap _
    rw [e2]
    exact ⟨rfl, N0, rfl⟩
theorem pn_1 : plainName "com/example/antechamber/antechamber/bench/ResultTimedOutFractionPinLaw" = true := by first | (simp [plainName, overriddenIn]; done) | decide +kernel
theorem ef_rm_fc (m : MethodId) (x0 : Int64) (x1 : Int64) : entryFrame m #[(.long x0), (.long x1)] 4 = mkF m 0 #[.val (.long x0), .second, .val (.long x1), .second] [] := by first | (simp [entryFrame, mkF, argsToLocals, Value.category]; done) | rfl
def Q_rm_fc (Z : State) (q1 : Int64) (q2 : Int64) (h0 : Heap) (n0 : Nat) (v : Option Value) (h : Heap) (L : List Loc) : Prop := v = some (.double (own_fr q1 q2)) ∧ Fr n0 L ∧ Keep h0 h []
theorem d1_0 : decode method_3_code 0 = .ok (.new 18, 3) := by decide +kernel
theorem d1_3 : decode method_3_code 3 = .ok (.dup, 1) := by decide +kernel
theorem own_sa : ∀ w ∈ Bundle.stringAtoms, w ∈ tables_1 := by decide +kernel
theorem d1_4 : decode method_3_code 4 = .ok (.ldc 20, 2) := by decide +kernel
theorem d1_6 : decode method_3_code 6 = .ok (.dconst 1, 1) := by decide +kernel
theorem d1_7 : decode method_3_code 7 = .ok (.dconst 1, 1) := by decide +kernel
theorem d1_8 : decode method_3_code 8 = .ok (.lload_n 0, 1) := by decide +kernel
theorem d1_9 : decode method_3_code 9 = .ok (.lload_n 0, 1) := by decide +kernel
theorem d1_10 : decode method_3_code 10 = .ok (.lload_n 2, 1) := by decide +kernel
theorem d1_11 : decode method_3_code 11 = .ok (.lsub, 1) := by decide +kernel
theorem d1_12 : decode method_3_code 12 = .ok (.lload_n 2, 1) := by decide +kernel
theorem d1_13 : decode method_3_code 13 = .ok (.dconst 0, 1) := by decide +kernel
theorem d1_14 : decode method_3_code 14 = .ok (.dconst 0, 1) := by decide +kernel
theorem d1_15 : decode method_3_code 15 = .ok (.dconst 0, 1) := by decide +kernel
theorem pd__Ljava_lang_String_DDJJJDDD_V_2425 : parseMethodDescriptor "(Ljava/lang/String;DDJJJDDD)V" = some ⟨[(.object "java/lang/String"), .double, .double, .long, .long, .long, .double, .double, .double], none⟩ := by decide +kernel
theorem d1_16 : decode method_3_code 16 = .ok (.invokespecial 22, 3) := by decide +kernel
theorem pd___D_149 : parseMethodDescriptor "()D" = some ⟨[], some .double⟩ := by decide +kernel
theorem d1_19 : decode method_3_code 19 = .ok (.invokevirtual 25, 3) := by decide +kernel
theorem d1_22 : decode method_3_code 22 = .ok (.dreturn, 1) := by decide +kernel
set_option maxRecDepth 65536 in
set_option maxHeartbeats 40000000 in
theorem rm_fc (l : Launch) (Z : State) (a0 : Array Value) (hw : ∀ d ∈ tables_1, d.before a0 Z = true) (ws : List Jvm.Cond) (q1 : Int64) (q2 : Int64) (h0 : Heap) (n0 : Nat) (Z0 : n0 ≤ h0.size) (hpr : 1 ≤ q1.toInt) (hpt : 0 ≤ q2.toInt) :
    MetFree l (⟨"com/example/antechamber/antechamber/bench/ResultTimedOutFractionPinLaw", "fraction", "(JJ)D"⟩ : MethodName) (head1 (Jvm.Cond.code (⟨"com/example/antechamber/antechamber/bench/ResultTimedOutFractionPinLaw", "fraction", "(JJ)D"⟩ : MethodName) method_3_code 4 (some .double) :: ws) ({ frames := 3, cells := 3, slots := 57, locals := 54 } : Room)) (fun a U => a = #[(.long q1), (.long q2)] ∧ Z.Warmed39 U.vm ∧ U.heap = h0) (fun _ _ _ _ _ => True) (fun _ U o U' => ∃ v L, o = .returned v ∧ Q_rm_fc Z q1 q2 h0 n0 v U'.heap L ∧ ReturnedEndW U o U' L ({ frames := 3, cells := 3, slots := 57, locals := 54 } : Room).cells ({ frames := 3, cells := 3, slots := 57, locals := 54 } : Room).slots) := by
  refine MetFree.of_bodySF (plainFor_of_name pn_1) hisR ?_
  intro p e s m args below meth c s₁ Bd hml0 hP hK
  obtain ⟨rfl, hZ, hh⟩ := hP
  have hx := Bd.exec
  have hby := Bd.bytes
  have hml : c.maxLocals = 4 := hml0
  have hown : s.vm.findClass "com/example/antechamber/antechamber/bench/ResultTimedOutFractionPinLaw" = some m.cls := findClass_of_methodNamed Bd.named
  have hnm := (name_of_methodNamed Bd.named Bd.method).1
  have X0 : Stand p l e ({ frames := 3, cells := 3, slots := 57, locals := 54 } : Room) s m #[(.long q1), (.long q2)] below meth c s₁ [] 0 0 := Stand.of_body Bd
  have e0 : s₁.heap = h0 := by rw [← hh, Bd.state]; rfl
  have N0 := Fr.nil n0
  have pre0 : ∀ t, Steps p.tables e below (s₁.setTop (mkF m 0 #[.val (.long q1), .second, .val (.long q2), .second] [])) t → Steps p.tables e below (s₁.setTop (entryFrame m #[(.long q1), (.long q2)] 4)) t := fun t kt => castTop (ef_rm_fc m q1 q2) kt
  obtain ⟨T1, h1, X1, e1, E1, A1, D1, -, st1⟩ := newO X0 hx hZ hown (hw _ (List.mem_of_getElem? (i := 6) rfl)) (hw _ (List.mem_of_getElem? (i := 7) rfl)) (hw _ (List.mem_of_getElem? (i := 8) rfl)) e0 (g := (mkF m 0 #[.val (.long q1), .second, .val (.long q2), .second] [])) rfl (hb hby d1_0) (by decide) (by decide)
  obtain ⟨b1, g1⟩ : ∃ z, z = h0.size := ⟨_, rfl⟩
  rw [← g1] at A1 D1 st1
  have sz_b1 : h0.size ≤ b1 := Nat.le_trans (Keep.refl h0 []).1 (Nat.le_of_eq g1.symm)
  have f1 : Keep h0 h1 [] := (Keep.refl h0 []).ext E1
  have g_b1 : n0 ≤ b1 := Nat.le_trans Z0 (Nat.le_of_eq g1.symm)
  have Z1 : n0 ≤ h1.size := Nat.le_trans Z0 E1.1
  have F_design_b1 : Fld Z h1 b1 "com/example/antechamber/antechamber/bench/Run$Result" "design" "Ljava/lang/String;" .null := D1 (Or.inr (hw _ (List.mem_of_getElem? (i := 29) rfl))) (ty := (.object "java/lang/String")) (by decide)
  have F_targetRate_b1 : Fld Z h1 b1 "com/example/antechamber/antechamber/bench/Run$Result" "targetRate" "D" (.double (0 : UInt64)) := D1 (Or.inr (hw _ (List.mem_of_getElem? (i := 31) rfl))) (ty := .double) (by decide)
  have F_achievedRate_b1 : Fld Z h1 b1 "com/example/antechamber/antechamber/bench/Run$Result" "achievedRate" "D" (.double (0 : UInt64)) := D1 (Or.inr (hw _ (List.mem_of_getElem? (i := 33) rfl))) (ty := .double) (by decide)
  have F_requests_b1 : Fld Z h1 b1 "com/example/antechamber/antechamber/bench/Run$Result" "requests" "J" (.long (0 : Int64)) := D1 (Or.inr (hw _ (List.mem_of_getElem? (i := 35) rfl))) (ty := .long) (by decide)
  have F_satisfied_b1 : Fld Z h1 b1 "com/example/antechamber/antechamber/bench/Run$Result" "satisfied" "J" (.long (0 : Int64)) := D1 (Or.inr (hw _ (List.mem_of_getElem? (i := 37) rfl))) (ty := .long) (by decide)
  have F_timedOut_b1 : Fld Z h1 b1 "com/example/antechamber/antechamber/bench/Run$Result" "timedOut" "J" (.long (0 : Int64)) := D1 (Or.inr (hw _ (List.mem_of_getElem? (i := 39) rfl))) (ty := .long) (by decide)
  have F_meanPending_b1 : Fld Z h1 b1 "com/example/antechamber/antechamber/bench/Run$Result" "meanPending" "D" (.double (0 : UInt64)) := D1 (Or.inr (hw _ (List.mem_of_getElem? (i := 41) rfl))) (ty := .double) (by decide)
  have F_meanHoldMs_b1 : Fld Z h1 b1 "com/example/antechamber/antechamber/bench/Run$Result" "meanHoldMs" "D" (.double (0 : UInt64)) := D1 (Or.inr (hw _ (List.mem_of_getElem? (i := 43) rfl))) (ty := .double) (by decide)
  have F_cpuSeconds_b1 : Fld Z h1 b1 "com/example/antechamber/antechamber/bench/Run$Result" "cpuSeconds" "D" (.double (0 : UInt64)) := D1 (Or.inr (hw _ (List.mem_of_getElem? (i := 45) rfl))) (ty := .double) (by decide)
  have pre_2 : ∀ t, Steps p.tables e below (T1.setTop (mkF m 4 #[.val (.long q1), .second, .val (.long q2), .second] [(.ref b1), (.ref b1)])) t → Steps p.tables e below (s₁.setTop (entryFrame m #[(.long q1), (.long q2)] 4)) t := by
    intro t kt
    refine pre0 _ ?_
    show Steps p.tables e below (s₁.setTop (mkF m 0 #[.val (.long q1), .second, .val (.long q2), .second] [])) _
    refine st1 _ ?_
    show Steps p.tables e below (T1.setTop (mkF m 3 #[.val (.long q1), .second, .val (.long q2), .second] [(.ref b1)])) _
    refine XS.dup X1.here hx rfl (hb hby d1_3) rfl rfl ?_
    exact kt
  obtain ⟨b3, T3, h3, k3, X3, e3, E3, hS3, hk3, hZ, hown, st3⟩ := ldcS (s := s) (vm0 := s.vm) X1 hx hZ hown (hw _ (List.mem_of_getElem? (i := 9) rfl)) (fun a ha => hw a (own_sa a ha)) e1 ((State.WarmedH.refl s).since h1.size) (Nat.le_refl _) (g := (mkF m 4 #[.val (.long q1), .second, .val (.long q2), .second] [(.ref b1), (.ref b1)])) rfl (hb hby d1_4) (n := 44) (by decide) (by decide) (by decide) (by decide)
  have f2 : Keep h0 h3 [] := f1.ext E3
  have f3 : n0 ≤ b1 := g_b1
  have f4 : Exa Z h3 b1 "com/example/antechamber/antechamber/bench/Run$Result" := A1.ext E3
  have f5 : Fld Z h3 b1 "com/example/antechamber/antechamber/bench/Run$Result" "design" "Ljava/lang/String;" .null := F_design_b1.ext E3
  have f6 : Fld Z h3 b1 "com/example/antechamber/antechamber/bench/Run$Result" "targetRate" "D" (.double (0 : UInt64)) := F_targetRate_b1.ext E3
  have f7 : Fld Z h3 b1 "com/example/antechamber/antechamber/bench/Run$Result" "achievedRate" "D" (.double (0 : UInt64)) := F_achievedRate_b1.ext E3
  have f8 : Fld Z h3 b1 "com/example/antechamber/antechamber/bench/Run$Result" "requests" "J" (.long (0 : Int64)) := F_requests_b1.ext E3
  have f9 : Fld Z h3 b1 "com/example/antechamber/antechamber/bench/Run$Result" "satisfied" "J" (.long (0 : Int64)) := F_satisfied_b1.ext E3
  have f10 : Fld Z h3 b1 "com/example/antechamber/antechamber/bench/Run$Result" "timedOut" "J" (.long (0 : Int64)) := F_timedOut_b1.ext E3
  have f11 : Fld Z h3 b1 "com/example/antechamber/antechamber/bench/Run$Result" "meanPending" "D" (.double (0 : UInt64)) := F_meanPending_b1.ext E3
  have f12 : Fld Z h3 b1 "com/example/antechamber/antechamber/bench/Run$Result" "meanHoldMs" "D" (.double (0 : UInt64)) := F_meanHoldMs_b1.ext E3
  have f13 : Fld Z h3 b1 "com/example/antechamber/antechamber/bench/Run$Result" "cpuSeconds" "D" (.double (0 : UInt64)) := F_cpuSeconds_b1.ext E3
  have Z3 : n0 ≤ h3.size := Nat.le_trans Z1 E3.1
  obtain ⟨_, _, ⟨T4, L4, k4, n4⟩, -, X4, ⟨Lc4, hQ4, l4, y4, z4⟩, st4⟩ := X3.specialBack hx (y := (⟨"com/example/antechamber/antechamber/bench/Run$Result", "<init>", "(Ljava/lang/String;DDJJJDDD)V"⟩ : MethodName)) rfl hown (mvT hZ (hw _ (List.mem_of_getElem? (i := 17) rfl))) (mvT hZ (hw _ (List.mem_of_getElem? (i := 18) rfl))) (mvT hZ (hw _ (List.mem_of_getElem? (i := 19) rfl))) (by decide) (backOf (W := 1) (rm_ini l Z a0 hw [] b1 b3 FP.dconst1 FP.dconst1 q1 (q1 - q2) q2 FP.dconst0 FP.dconst0 FP.dconst0 h3 n0 Z3 f5 f6 f7 f8 f9 f10 f11 f12 f13 f4 f3) hZ (hw _ (List.mem_of_getElem? (i := 19) rfl)) (hw _ (List.mem_of_getElem? (i := 8) rfl)) (by decide) (by decide)) (g := (mkF m 16 #[.val (.long q1), .second, .val (.long q2), .second] [(.double FP.dconst0), (.double FP.dconst0), (.double FP.dconst0), (.long q2), (.long (q1 - q2)), (.long q1), (.double FP.dconst1), (.double FP.dconst1), (.ref b3), (.ref b1), (.ref b1)])) rfl (by rw [hml]; rfl) (Steps.refl _) (a := b1) (argsL := [(.ref b3), (.double FP.dconst1), (.double FP.dconst1), (.long q1), (.long (q1 - q2)), (.long q2), (.double FP.dconst0), (.double FP.dconst0), (.double FP.dconst0)]) (rest := [(.ref b1)]) (lenOf pd__Ljava_lang_String_DDJJJDDD_V_2425 rfl) rfl (by show 2 * 0 + _ ≤ _; exact Nat.le_of_eq rfl) (hb hby d1_16) (fun _ _ => ⟨rfl, e3, (by decide : 3 + 0 ≤ _), (by decide : 57 + 0 ≤ _)⟩)
  dsimp only [Pt.U, Pt.locs, Pt.cells, Pt.slots] at X4 l4 y4 z4 st4 hQ4
  subst l4 y4 z4
  obtain ⟨rfl, N4q, K4, fk4_0, fk4_1, fk4_2⟩ := hQ4
  have f14 : Keep h0 T4.heap [] := f2.trans K4 (fun x hx => by cases List.mem_singleton.mp hx; exact Or.inr sz_b1)
  have f15 : n0 ≤ b1 := f3
  have f16 : k3 ≤ T4.heap.size := Nat.le_trans hk3 K4.1
  have Z4 : n0 ≤ T4.heap.size := Nat.le_trans Z3 K4.1
  have N4 := Fr.app N0 N4q
  obtain ⟨cq5, kq5, q5a, q5b, q5c⟩ := isOf hZ rfl fk4_0
  obtain ⟨_, _, ⟨T5, L5, k5, n5⟩, -, X5, ⟨Lc5, hQ5, l5, y5, z5⟩, st5⟩ := X4.virtualBack hx (y := (⟨"com/example/antechamber/antechamber/bench/Run$Result", "timedOutFraction", "()D"⟩ : MethodName)) (z := (⟨"com/example/antechamber/antechamber/bench/Run$Result", "timedOutFraction", "()D"⟩ : MethodName)) hown (mvT hZ (hw _ (List.mem_of_getElem? (i := 46) rfl))) (mvT hZ (hw _ (List.mem_of_getElem? (i := 47) rfl))) (notFace_of_selects (args := #[]) (mvT hZ (hw _ (List.mem_of_getElem? (i := 49) rfl)))) (mvT hZ (hw _ (List.mem_of_getElem? (i := 49) rfl))) (mvT hZ (hw _ (List.mem_of_getElem? (i := 48) rfl))) (by decide) (backOf (W := 0) (rm_fr l Z a0 hw [] b1 q1 q2 T4.heap n0 Z4 fk4_1 fk4_2 hpr hpt) hZ (hw _ (List.mem_of_getElem? (i := 50) rfl)) (hw _ (List.mem_of_getElem? (i := 8) rfl)) (by decide) (by decide)) q5a q5c (g := (mkF m 19 #[.val (.long q1), .second, .val (.long q2), .second] [(.ref b1)])) rfl (by rw [hml]; rfl) (Steps.refl _) (argsL := []) (rest := []) (lenOf pd___D_149 rfl) rfl (by show 2 * 0 + _ ≤ _; exact Nat.le_of_eq rfl) (hb hby d1_19) (fun _ _ => ⟨rfl, rfl, (by decide : 3 + 0 ≤ _), (by decide : 57 + 0 ≤ _)⟩)
  dsimp only [Pt.U, Pt.locs, Pt.cells, Pt.slots] at X5 l5 y5 z5 st5 hQ5
  subst l5 y5 z5
  obtain ⟨rfl, N5q, e5⟩ := hQ5
  have N5 := Fr.app N4 N5q
  obtain ⟨fs, hr, hrun, hended, hRW⟩ := X5.leaveW (s := s) hS3 (by rw [e5]; exact f16) (v := some (.double (own_fr q1 q2))) (fun h => by rw [Bd.returns] at h; cases h) (hlocks := Bd.notSynchronized)
  refine ⟨_, _, pre_2 _ ?_, hrun, hended, _, _, rfl, ?_, hRW.1, hRW.2.1, hRW.2.2.1, hRW.2.2.2.mono (by decide) (by decide)⟩
  · show Steps p.tables e below (T1.setTop (mkF m 4 #[.val (.long q1), .second, .val (.long q2), .second] [(.ref b1), (.ref b1)])) _
    refine st3 _ ?_
    show Steps p.tables e below (T3.setTop (mkF m 6 #[.val (.long q1), .second, .val (.long q2), .second] [(.ref b3), (.ref b1), (.ref b1)])) _
    refine XS.dconst1 X3.here hx rfl (hb hby d1_6) rfl ?_
    show Steps p.tables e below (T3.setTop (mkF m 7 #[.val (.long q1), .second, .val (.long q2), .second] [(.double FP.dconst1), (.ref b3), (.ref b1), (.ref b1)])) _
    refine XS.dconst1 X3.here hx rfl (hb hby d1_7) rfl ?_
    show Steps p.tables e below (T3.setTop (mkF m 8 #[.val (.long q1), .second, .val (.long q2), .second] [(.double FP.dconst1), (.double FP.dconst1), (.ref b3), (.ref b1), (.ref b1)])) _
    refine XS.lloadN X3.here hx rfl (hb hby d1_8) rfl ?_
    show Steps p.tables e below (T3.setTop (mkF m 9 #[.val (.long q1), .second, .val (.long q2), .second] [(.long q1), (.double FP.dconst1), (.double FP.dconst1), (.ref b3), (.ref b1), (.ref b1)])) _
    refine XS.lloadN X3.here hx rfl (hb hby d1_9) rfl ?_
    show Steps p.tables e below (T3.setTop (mkF m 10 #[.val (.long q1), .second, .val (.long q2), .second] [(.long q1), (.long q1), (.double FP.dconst1), (.double FP.dconst1), (.ref b3), (.ref b1), (.ref b1)])) _
    refine XS.lloadN X3.here hx rfl (hb hby d1_10) rfl ?_
    show Steps p.tables e below (T3.setTop (mkF m 11 #[.val (.long q1), .second, .val (.long q2), .second] [(.long q2), (.long q1), (.long q1), (.double FP.dconst1), (.double FP.dconst1), (.ref b3), (.ref b1), (.ref b1)])) _
    refine XS.lsub X3.here hx rfl (hb hby d1_11) rfl ?_
    show Steps p.tables e below (T3.setTop (mkF m 12 #[.val (.long q1), .second, .val (.long q2), .second] [(.long (q1 - q2)), (.long q1), (.double FP.dconst1), (.double FP.dconst1), (.ref b3), (.ref b1), (.ref b1)])) _
    refine XS.lloadN X3.here hx rfl (hb hby d1_12) rfl ?_
    show Steps p.tables e below (T3.setTop (mkF m 13 #[.val (.long q1), .second, .val (.long q2), .second] [(.long q2), (.long (q1 - q2)), (.long q1), (.double FP.dconst1), (.double FP.dconst1), (.ref b3), (.ref b1), (.ref b1)])) _
    refine XS.dconst0 X3.here hx rfl (hb hby d1_13) rfl ?_
    show Steps p.tables e below (T3.setTop (mkF m 14 #[.val (.long q1), .second, .val (.long q2), .second] [(.double FP.dconst0), (.long q2), (.long (q1 - q2)), (.long q1), (.double FP.dconst1), (.double FP.dconst1), (.ref b3), (.ref b1), (.ref b1)])) _
    refine XS.dconst0 X3.here hx rfl (hb hby d1_14) rfl ?_
    show Steps p.tables e below (T3.setTop (mkF m 15 #[.val (.long q1), .second, .val (.long q2), .second] [(.double FP.dconst0), (.double FP.dconst0), (.long q2), (.long (q1 - q2)), (.long q1), (.double FP.dconst1), (.double FP.dconst1), (.ref b3), (.ref b1), (.ref b1)])) _
    refine XS.dconst0 X3.here hx rfl (hb hby d1_15) rfl ?_
    show Steps p.tables e below (T3.setTop (mkF m 16 #[.val (.long q1), .second, .val (.long q2), .second] [(.double FP.dconst0), (.double FP.dconst0), (.double FP.dconst0), (.long q2), (.long (q1 - q2)), (.long q1), (.double FP.dconst1), (.double FP.dconst1), (.ref b3), (.ref b1), (.ref b1)])) _
    refine st4.trans ?_
    show Steps p.tables e below (T4.setTop (mkF m 19 #[.val (.long q1), .second, .val (.long q2), .second] [(.ref b1)])) _
    refine st5.trans ?_
    show Steps p.tables e below (T5.setTop (mkF m 22 #[.val (.long q1), .second, .val (.long q2), .second] [(.double (own_fr q1 q2))])) _
    exact retD X5 hx Bd.returns (hb hby d1_22) hr
  · show Q_rm_fc Z q1 q2 h0 n0 _ T5.heap _
    rw [e5]
    exact ⟨rfl, N5, f14⟩
theorem pn_0 : plainName "com/example/antechamber/antechamber/bench/ResultTimedOutFractionPinLaw" = true := by first | (simp [plainName, overriddenIn]; done) | decide +kernel
theorem ef_rm0 (m : MethodId) (x0 : Int64) (x1 : Int64) (x2 : Int64) (x3 : Int32) : entryFrame m #[(.long x0), (.long x1), (.long x2), (.int x3)] maxLocals = mkF m 0 #[.val (.long x0), .second, .val (.long x1), .second, .val (.long x2), .second, .val (.int x3), .unset, .unset, .unset, .unset, .unset, .unset, .unset, .unset, .unset, .unset, .unset, .unset, .unset, .unset, .unset, .unset, .unset, .unset, .unset, .unset, .unset, .unset] [] := by first | (simp [entryFrame, mkF, argsToLocals, Value.category, maxLocals]; done) | rfl
def Q_rm0 (Z : State) (q1 : Int64) (q2 : Int64) (q3 : Int64) (p4 : Int32) (h0 : Heap) (n0 : Nat) (v : Option Value) (h : Heap) (L : List Loc) : Prop := v = some (.int 1) ∧ Fr n0 L
theorem pd__JJ_D_297 : parseMethodDescriptor "(JJ)D" = some ⟨[.long, .long], some .double⟩ := by decide +kernel
theorem rebase {p : Program} {l : Launch} {e : Env} {R : Room} {s s0 : State} {vm : Vm} {m : MethodId} {args : Array Value} {below : List Frame} {meth : Method} {c : Code} {T : State} {locs : List Loc} {cells slots : Nat} (X : Stand p l e R s0 m args below meth c T locs cells slots) (h : s0 = s.setVm vm := by rfl) : Stand p l e R (s.setVm vm) m args below meth c T locs cells slots := h ▸ X
set_option maxRecDepth 65536 in
set_option maxHeartbeats 40000000 in
theorem rm0 (l : Launch) (Z : State) (a0 : Array Value) (hw : ∀ d ∈ tables_1, d.before a0 Z = true) (ws : List Jvm.Cond) (q1 : Int64) (q2 : Int64) (q3 : Int64) (p4 : Int32) (h0 : Heap) (n0 : Nat) (Z0 : n0 ≤ h0.size)  :
    MetFree l x (head1 (Jvm.Cond.code x code maxLocals ret :: ws) room_1) (fun a U => a = #[(.long q1), (.long q2), (.long q3), (.int p4)] ∧ Z.Warmed39 U.vm ∧ U.heap = h0) (fun _ _ _ _ _ => True) (fun _ U o U' => ∃ v L, o = .returned v ∧ Q_rm0 Z q1 q2 q3 p4 h0 n0 v U'.heap L ∧ ReturnedEndW U o U' L room_1.cells room_1.slots) := by
  refine MetFree.of_bodySF (plainFor_of_name pn_0) hisR ?_
  intro p e s m args below meth c s₁ Bd hml0 hP hK
  obtain ⟨rfl, hZ, hh⟩ := hP
  have hx := Bd.exec
  have hby := Bd.bytes
  have hml : c.maxLocals = 29 := hml0
  have hown : s.vm.findClass "com/example/antechamber/antechamber/bench/ResultTimedOutFractionPinLaw" = some m.cls := findClass_of_methodNamed Bd.named
  have hnm := (name_of_methodNamed Bd.named Bd.method).1
  have X0 : Stand p l e room_1 s m #[(.long q1), (.long q2), (.long q3), (.int p4)] below meth c s₁ [] 0 0 := Stand.of_body Bd
  have e0 : s₁.heap = h0 := by rw [← hh, Bd.state]; rfl
  have N0 := Fr.nil n0
  have pre0 : ∀ t, Steps p.tables e below (s₁.setTop (mkF m 0 #[.val (.long q1), .second, .val (.long q2), .second, .val (.long q3), .second, .val (.int p4), .unset, .unset, .unset, .unset, .unset, .unset, .unset, .unset, .unset, .unset, .unset, .unset, .unset, .unset, .unset, .unset, .unset, .unset, .unset, .unset, .unset, .unset] [])) t → Steps p.tables e below (s₁.setTop (entryFrame m #[(.long q1), (.long q2), (.long q3), (.int p4)] maxLocals)) t := fun t kt => castTop (ef_rm0 m q1 q2 q3 p4) kt
  have pre_1 : ∀ t, Steps p.tables e below (s₁.setTop (mkF m 17 #[.val (.long q1), .second, .val (.long q2), .second, .val (.long q3), .second, .val (.int p4), .val (.long (if (lcmpW (own_m q1) (0 : Int64)) = (0 : Int32) then (1 : Int64) else (own_m q1))), .second, .unset, .unset, .unset, .unset, .unset, .unset, .unset, .unset, .unset, .unset, .unset, .unset, .unset, .unset, .unset, .unset, .unset, .unset, .unset, .unset] [])) t → Steps p.tables e below (s₁.setTop (entryFrame m #[(.long q1), (.long q2), (.long q3), (.int p4)] maxLocals)) t := by
    intro t kt
    refine pre0 _ ?_
    show Steps p.tables e below (s₁.setTop (mkF m 0 #[.val (.long q1), .second, .val (.long q2), .second, .val (.long q3), .second, .val (.int p4), .unset, .unset, .unset, .unset, .unset, .unset, .unset, .unset, .unset, .unset, .unset, .unset, .unset, .unset, .unset, .unset, .unset, .unset, .unset, .unset, .unset, .unset] [])) _
    refine XS.lloadN X0.here hx rfl (hb hby at_0) rfl ?_
    show Steps p.tables e below (s₁.setTop (mkF m 1 #[.val (.long q1), .second, .val (.long q2), .second, .val (.long q3), .second, .val (.int p4), .unset, .unset, .unset, .unset, .unset, .unset, .unset, .unset, .unset, .unset, .unset, .unset, .unset, .unset, .unset, .unset, .unset, .unset, .unset, .unset, .unset, .unset] [(.long q1)])) _
    refine X0.ldc2Long hx hown (mvT hZ (hw _ (List.mem_of_getElem? (i := 0) rfl))) (g := (mkF m 1 #[.val (.long q1), .second, .val (.long q2), .second, .val (.long q3), .second, .val (.int p4), .unset, .unset, .unset, .unset, .unset, .unset, .unset, .unset, .unset, .unset, .unset, .unset, .unset, .unset, .unset, .unset, .unset, .unset, .unset, .unset, .unset, .unset] [(.long q1)])) rfl (hb hby at_1) _ ?_
    show Steps p.tables e below (s₁.setTop (mkF m 4 #[.val (.long q1), .second, .val (.long q2), .second, .val (.long q3), .second, .val (.int p4), .unset, .unset, .unset, .unset, .unset, .unset, .unset, .unset, .unset, .unset, .unset, .unset, .unset, .unset, .unset, .unset, .unset, .unset, .unset, .unset, .unset, .unset] [(.long (9223372036854775807 : Int64)), (.long q1)])) _
    refine XS.land X0.here hx rfl (hb hby at_4) rfl ?_
    show Steps p.tables e below (s₁.setTop (mkF m 5 #[.val (.long q1), .second, .val (.long q2), .second, .val (.long q3), .second, .val (.int p4), .unset, .unset, .unset, .unset, .unset, .unset, .unset, .unset, .unset, .unset, .unset, .unset, .unset, .unset, .unset, .unset, .unset, .unset, .unset, .unset, .unset, .unset] [(.long (q1 &&& (9223372036854775807 : Int64)))])) _
    refine XS.lstore X0.here hx rfl (hb hby at_5) rfl (l' := #[.val (.long q1), .second, .val (.long q2), .second, .val (.long q3), .second, .val (.int p4), .val (.long (q1 &&& (9223372036854775807 : Int64))), .second, .unset, .unset, .unset, .unset, .unset, .unset, .unset, .unset, .unset, .unset, .unset, .unset, .unset, .unset, .unset, .unset, .unset, .unset, .unset, .unset]) rfl ?_
    show Steps p.tables e below (s₁.setTop (mkF m 7 #[.val (.long q1), .second, .val (.long q2), .second, .val (.long q3), .second, .val (.int p4), .val (.long (own_m q1)), .second, .unset, .unset, .unset, .unset, .unset, .unset, .unset, .unset, .unset, .unset, .unset, .unset, .unset, .unset, .unset, .unset, .unset, .unset, .unset, .unset] [])) _
    refine XS.lload X0.here hx rfl (hb hby at_7) rfl ?_
    show Steps p.tables e below (s₁.setTop (mkF m 9 #[.val (.long q1), .second, .val (.long q2), .second, .val (.long q3), .second, .val (.int p4), .val (.long (own_m q1)), .second, .unset, .unset, .unset, .unset, .unset, .unset, .unset, .unset, .unset, .unset, .unset, .unset, .unset, .unset, .unset, .unset, .unset, .unset, .unset, .unset] [(.long (own_m q1))])) _
    refine XS.lconst X0.here hx rfl (hb hby at_9) ?_
    show Steps p.tables e below (s₁.setTop (mkF m 10 #[.val (.long q1), .second, .val (.long q2), .second, .val (.long q3), .second, .val (.int p4), .val (.long (own_m q1)), .second, .unset, .unset, .unset, .unset, .unset, .unset, .unset, .unset, .unset, .unset, .unset, .unset, .unset, .unset, .unset, .unset, .unset, .unset, .unset, .unset] [(.long (0 : Int64)), (.long (own_m q1))])) _
    refine XS.lcmp X0.here hx rfl (hb hby at_10) rfl ?_
    show Steps p.tables e below (s₁.setTop (mkF m 11 #[.val (.long q1), .second, .val (.long q2), .second, .val (.long q3), .second, .val (.int p4), .val (.long (own_m q1)), .second, .unset, .unset, .unset, .unset, .unset, .unset, .unset, .unset, .unset, .unset, .unset, .unset, .unset, .unset, .unset, .unset, .unset, .unset, .unset, .unset] [(.int (lcmpW (own_m q1) (0 : Int64)))])) _
    by_cases hc11 : (lcmpW (own_m q1) (0 : Int64)) = (0 : Int32)
    · rw [if_pos hc11] at kt
      refine XS.ifNo X0.here hx rfl (hb hby at_11) rfl ((if0 _ _).trans (teq hc11).2) ?_
      show Steps p.tables e below (s₁.setTop (mkF m 14 #[.val (.long q1), .second, .val (.long q2), .second, .val (.long q3), .second, .val (.int p4), .val (.long (own_m q1)), .second, .unset, .unset, .unset, .unset, .unset, .unset, .unset, .unset, .unset, .unset, .unset, .unset, .unset, .unset, .unset, .unset, .unset, .unset, .unset, .unset] [])) _
      refine XS.lconst X0.here hx rfl (hb hby at_14) ?_
      show Steps p.tables e below (s₁.setTop (mkF m 15 #[.val (.long q1), .second, .val (.long q2), .second, .val (.long q3), .second, .val (.int p4), .val (.long (own_m q1)), .second, .unset, .unset, .unset, .unset, .unset, .unset, .unset, .unset, .unset, .unset, .unset, .unset, .unset, .unset, .unset, .unset, .unset, .unset, .unset, .unset] [(.long (1 : Int64))])) _
      refine XS.lstore X0.here hx rfl (hb hby at_15) rfl (l' := #[.val (.long q1), .second, .val (.long q2), .second, .val (.long q3), .second, .val (.int p4), .val (.long (1 : Int64)), .second, .unset, .unset, .unset, .unset, .unset, .unset, .unset, .unset, .unset, .unset, .unset, .unset, .unset, .unset, .unset, .unset, .unset, .unset, .unset, .unset]) rfl ?_
      exact kt
    · rw [if_neg hc11] at kt
      refine XS.ifYes X0.here hx rfl (pc0 := 11) (pc' := 17) rfl (hb hby at_11) rfl ((if0 _ _).trans (feq hc11).2) (by decide) (by decide) ?_
      exact kt
  have pre_3 : ∀ t, Steps p.tables e below (s₁.setTop (mkF m 80 #[.val (.long q1), .second, .val (.long q2), .second, .val (.long q3), .second, .val (.int p4), .val (.long (own_r q1)), .second, .val (.long (own_t q1 q2)), .second, .val (.long (own_t2 q1 q2 q3)), .second, .val (.int (own_k p4)), .val (.long (own_r3 p4)), .second, .val (.long (own_t3 q2 p4)), .second, .unset, .unset, .unset, .unset, .unset, .unset, .unset, .unset, .unset, .unset, .unset] [(.long (own_t q1 q2)), (.long (own_r q1))])) t → Steps p.tables e below (s₁.setTop (entryFrame m #[(.long q1), (.long q2), (.long q3), (.int p4)] maxLocals)) t := by
    intro t kt
    refine pre_1 _ ?_
    show Steps p.tables e below (s₁.setTop (mkF m 17 #[.val (.long q1), .second, .val (.long q2), .second, .val (.long q3), .second, .val (.int p4), .val (.long (own_r q1)), .second, .unset, .unset, .unset, .unset, .unset, .unset, .unset, .unset, .unset, .unset, .unset, .unset, .unset, .unset, .unset, .unset, .unset, .unset, .unset, .unset] [])) _
    refine XS.lloadN X0.here hx rfl (hb hby at_17) rfl ?_
    show Steps p.tables e below (s₁.setTop (mkF m 18 #[.val (.long q1), .second, .val (.long q2), .second, .val (.long q3), .second, .val (.int p4), .val (.long (own_r q1)), .second, .unset, .unset, .unset, .unset, .unset, .unset, .unset, .unset, .unset, .unset, .unset, .unset, .unset, .unset, .unset, .unset, .unset, .unset, .unset, .unset] [(.long q2)])) _
    refine X0.ldc2Long hx hown (mvT hZ (hw _ (List.mem_of_getElem? (i := 0) rfl))) (g := (mkF m 18 #[.val (.long q1), .second, .val (.long q2), .second, .val (.long q3), .second, .val (.int p4), .val (.long (own_r q1)), .second, .unset, .unset, .unset, .unset, .unset, .unset, .unset, .unset, .unset, .unset, .unset, .unset, .unset, .unset, .unset, .unset, .unset, .unset, .unset, .unset] [(.long q2)])) rfl (hb hby at_18) _ ?_
    show Steps p.tables e below (s₁.setTop (mkF m 21 #[.val (.long q1), .second, .val (.long q2), .second, .val (.long q3), .second, .val (.int p4), .val (.long (own_r q1)), .second, .unset, .unset, .unset, .unset, .unset, .unset, .unset, .unset, .unset, .unset, .unset, .unset, .unset, .unset, .unset, .unset, .unset, .unset, .unset, .unset] [(.long (9223372036854775807 : Int64)), (.long q2)])) _
    refine XS.land X0.here hx rfl (hb hby at_21) rfl ?_
    show Steps p.tables e below (s₁.setTop (mkF m 22 #[.val (.long q1), .second, .val (.long q2), .second, .val (.long q3), .second, .val (.int p4), .val (.long (own_r q1)), .second, .unset, .unset, .unset, .unset, .unset, .unset, .unset, .unset, .unset, .unset, .unset, .unset, .unset, .unset, .unset, .unset, .unset, .unset, .unset, .unset] [(.long (own_m q2))])) _
    refine XS.lload X0.here hx rfl (hb hby at_22) rfl ?_
    show Steps p.tables e below (s₁.setTop (mkF m 24 #[.val (.long q1), .second, .val (.long q2), .second, .val (.long q3), .second, .val (.int p4), .val (.long (own_r q1)), .second, .unset, .unset, .unset, .unset, .unset, .unset, .unset, .unset, .unset, .unset, .unset, .unset, .unset, .unset, .unset, .unset, .unset, .unset, .unset, .unset] [(.long (own_r q1)), (.long (own_m q2))])) _
    refine XS.lconst X0.here hx rfl (hb hby at_24) ?_
    show Steps p.tables e below (s₁.setTop (mkF m 25 #[.val (.long q1), .second, .val (.long q2), .second, .val (.long q3), .second, .val (.int p4), .val (.long (own_r q1)), .second, .unset, .unset, .unset, .unset, .unset, .unset, .unset, .unset, .unset, .unset, .unset, .unset, .unset, .unset, .unset, .unset, .unset, .unset, .unset, .unset] [(.long (1 : Int64)), (.long (own_r q1)), (.long (own_m q2))])) _
    refine XS.ladd X0.here hx rfl (hb hby at_25) rfl ?_
    show Steps p.tables e below (s₁.setTop (mkF m 26 #[.val (.long q1), .second, .val (.long q2), .second, .val (.long q3), .second, .val (.int p4), .val (.long (own_r q1)), .second, .unset, .unset, .unset, .unset, .unset, .unset, .unset, .unset, .unset, .unset, .unset, .unset, .unset, .unset, .unset, .unset, .unset, .unset, .unset, .unset] [(.long ((own_r q1) + (1 : Int64))), (.long (own_m q2))])) _
    refine XS.lrem X0.here hx rfl (hb hby at_26) rfl (own_nz (by have := own_r_rng q1; omega)) ?_
    show Steps p.tables e below (s₁.setTop (mkF m 27 #[.val (.long q1), .second, .val (.long q2), .second, .val (.long q3), .second, .val (.int p4), .val (.long (own_r q1)), .second, .unset, .unset, .unset, .unset, .unset, .unset, .unset, .unset, .unset, .unset, .unset, .unset, .unset, .unset, .unset, .unset, .unset, .unset, .unset, .unset] [(.long ((own_m q2) - ((own_m q2) / ((own_r q1) + (1 : Int64))) * ((own_r q1) + (1 : Int64))))])) _
    refine XS.lstore X0.here hx rfl (hb hby at_27) rfl (l' := #[.val (.long q1), .second, .val (.long q2), .second, .val (.long q3), .second, .val (.int p4), .val (.long (own_r q1)), .second, .val (.long ((own_m q2) - ((own_m q2) / ((own_r q1) + (1 : Int64))) * ((own_r q1) + (1 : Int64)))), .second, .unset, .unset, .unset, .unset, .unset, .unset, .unset, .unset, .unset, .unset, .unset, .unset, .unset, .unset, .unset, .unset, .unset, .unset]) rfl ?_
    show Steps p.tables e below (s₁.setTop (mkF m 29 #[.val (.long q1), .second, .val (.long q2), .second, .val (.long q3), .second, .val (.int p4), .val (.long (own_r q1)), .second, .val (.long (own_t q1 q2)), .second, .unset, .unset, .unset, .unset, .unset, .unset, .unset, .unset, .unset, .unset, .unset, .unset, .unset, .unset, .unset, .unset, .unset, .unset] [])) _
    refine XS.lload X0.here hx rfl (hb hby at_29) rfl ?_
    show Steps p.tables e below (s₁.setTop (mkF m 31 #[.val (.long q1), .second, .val (.long q2), .second, .val (.long q3), .second, .val (.int p4), .val (.long (own_r q1)), .second, .val (.long (own_t q1 q2)), .second, .unset, .unset, .unset, .unset, .unset, .unset, .unset, .unset, .unset, .unset, .unset, .unset, .unset, .unset, .unset, .unset, .unset, .unset] [(.long (own_t q1 q2))])) _
    refine XS.lload X0.here hx rfl (hb hby at_31) rfl ?_
    show Steps p.tables e below (s₁.setTop (mkF m 33 #[.val (.long q1), .second, .val (.long q2), .second, .val (.long q3), .second, .val (.int p4), .val (.long (own_r q1)), .second, .val (.long (own_t q1 q2)), .second, .unset, .unset, .unset, .unset, .unset, .unset, .unset, .unset, .unset, .unset, .unset, .unset, .unset, .unset, .unset, .unset, .unset, .unset] [(.long q3), (.long (own_t q1 q2))])) _
    refine X0.ldc2Long hx hown (mvT hZ (hw _ (List.mem_of_getElem? (i := 0) rfl))) (g := (mkF m 33 #[.val (.long q1), .second, .val (.long q2), .second, .val (.long q3), .second, .val (.int p4), .val (.long (own_r q1)), .second, .val (.long (own_t q1 q2)), .second, .unset, .unset, .unset, .unset, .unset, .unset, .unset, .unset, .unset, .unset, .unset, .unset, .unset, .unset, .unset, .unset, .unset, .unset] [(.long q3), (.long (own_t q1 q2))])) rfl (hb hby at_33) _ ?_
    show Steps p.tables e below (s₁.setTop (mkF m 36 #[.val (.long q1), .second, .val (.long q2), .second, .val (.long q3), .second, .val (.int p4), .val (.long (own_r q1)), .second, .val (.long (own_t q1 q2)), .second, .unset, .unset, .unset, .unset, .unset, .unset, .unset, .unset, .unset, .unset, .unset, .unset, .unset, .unset, .unset, .unset, .unset, .unset] [(.long (9223372036854775807 : Int64)), (.long q3), (.long (own_t q1 q2))])) _
    refine XS.land X0.here hx rfl (hb hby at_36) rfl ?_
    show Steps p.tables e below (s₁.setTop (mkF m 37 #[.val (.long q1), .second, .val (.long q2), .second, .val (.long q3), .second, .val (.int p4), .val (.long (own_r q1)), .second, .val (.long (own_t q1 q2)), .second, .unset, .unset, .unset, .unset, .unset, .unset, .unset, .unset, .unset, .unset, .unset, .unset, .unset, .unset, .unset, .unset, .unset, .unset] [(.long (own_m q3)), (.long (own_t q1 q2))])) _
    refine XS.lload X0.here hx rfl (hb hby at_37) rfl ?_
    show Steps p.tables e below (s₁.setTop (mkF m 39 #[.val (.long q1), .second, .val (.long q2), .second, .val (.long q3), .second, .val (.int p4), .val (.long (own_r q1)), .second, .val (.long (own_t q1 q2)), .second, .unset, .unset, .unset, .unset, .unset, .unset, .unset, .unset, .unset, .unset, .unset, .unset, .unset, .unset, .unset, .unset, .unset, .unset] [(.long (own_r q1)), (.long (own_m q3)), (.long (own_t q1 q2))])) _
    refine XS.lload X0.here hx rfl (hb hby at_39) rfl ?_
    show Steps p.tables e below (s₁.setTop (mkF m 41 #[.val (.long q1), .second, .val (.long q2), .second, .val (.long q3), .second, .val (.int p4), .val (.long (own_r q1)), .second, .val (.long (own_t q1 q2)), .second, .unset, .unset, .unset, .unset, .unset, .unset, .unset, .unset, .unset, .unset, .unset, .unset, .unset, .unset, .unset, .unset, .unset, .unset] [(.long (own_t q1 q2)), (.long (own_r q1)), (.long (own_m q3)), (.long (own_t q1 q2))])) _
    refine XS.lsub X0.here hx rfl (hb hby at_41) rfl ?_
    show Steps p.tables e below (s₁.setTop (mkF m 42 #[.val (.long q1), .second, .val (.long q2), .second, .val (.long q3), .second, .val (.int p4), .val (.long (own_r q1)), .second, .val (.long (own_t q1 q2)), .second, .unset, .unset, .unset, .unset, .unset, .unset, .unset, .unset, .unset, .unset, .unset, .unset, .unset, .unset, .unset, .unset, .unset, .unset] [(.long ((own_r q1) - (own_t q1 q2))), (.long (own_m q3)), (.long (own_t q1 q2))])) _
    refine XS.lconst X0.here hx rfl (hb hby at_42) ?_
    show Steps p.tables e below (s₁.setTop (mkF m 43 #[.val (.long q1), .second, .val (.long q2), .second, .val (.long q3), .second, .val (.int p4), .val (.long (own_r q1)), .second, .val (.long (own_t q1 q2)), .second, .unset, .unset, .unset, .unset, .unset, .unset, .unset, .unset, .unset, .unset, .unset, .unset, .unset, .unset, .unset, .unset, .unset, .unset] [(.long (1 : Int64)), (.long ((own_r q1) - (own_t q1 q2))), (.long (own_m q3)), (.long (own_t q1 q2))])) _
    refine XS.ladd X0.here hx rfl (hb hby at_43) rfl ?_
    show Steps p.tables e below (s₁.setTop (mkF m 44 #[.val (.long q1), .second, .val (.long q2), .second, .val (.long q3), .second, .val (.int p4), .val (.long (own_r q1)), .second, .val (.long (own_t q1 q2)), .second, .unset, .unset, .unset, .unset, .unset, .unset, .unset, .unset, .unset, .unset, .unset, .unset, .unset, .unset, .unset, .unset, .unset, .unset] [(.long (((own_r q1) - (own_t q1 q2)) + (1 : Int64))), (.long (own_m q3)), (.long (own_t q1 q2))])) _
    refine XS.lrem X0.here hx rfl (hb hby at_44) rfl (own_nz (by have h1 := own_t_rng q1 q2; have h2 := own_d_val q1 q2; omega)) ?_
    show Steps p.tables e below (s₁.setTop (mkF m 45 #[.val (.long q1), .second, .val (.long q2), .second, .val (.long q3), .second, .val (.int p4), .val (.long (own_r q1)), .second, .val (.long (own_t q1 q2)), .second, .unset, .unset, .unset, .unset, .unset, .unset, .unset, .unset, .unset, .unset, .unset, .unset, .unset, .unset, .unset, .unset, .unset, .unset] [(.long ((own_m q3) - ((own_m q3) / (((own_r q1) - (own_t q1 q2)) + (1 : Int64))) * (((own_r q1) - (own_t q1 q2)) + (1 : Int64)))), (.long (own_t q1 q2))])) _
    refine XS.ladd X0.here hx rfl (hb hby at_45) rfl ?_
    show Steps p.tables e below (s₁.setTop (mkF m 46 #[.val (.long q1), .second, .val (.long q2), .second, .val (.long q3), .second, .val (.int p4), .val (.long (own_r q1)), .second, .val (.long (own_t q1 q2)), .second, .unset, .unset, .unset, .unset, .unset, .unset, .unset, .unset, .unset, .unset, .unset, .unset, .unset, .unset, .unset, .unset, .unset, .unset] [(.long ((own_t q1 q2) + ((own_m q3) - ((own_m q3) / (((own_r q1) - (own_t q1 q2)) + (1 : Int64))) * (((own_r q1) - (own_t q1 q2)) + (1 : Int64)))))])) _
    refine XS.lstore X0.here hx rfl (hb hby at_46) rfl (l' := #[.val (.long q1), .second, .val (.long q2), .second, .val (.long q3), .second, .val (.int p4), .val (.long (own_r q1)), .second, .val (.long (own_t q1 q2)), .second, .val (.long ((own_t q1 q2) + ((own_m q3) - ((own_m q3) / (((own_r q1) - (own_t q1 q2)) + (1 : Int64))) * (((own_r q1) - (own_t q1 q2)) + (1 : Int64))))), .second, .unset, .unset, .unset, .unset, .unset, .unset, .unset, .unset, .unset, .unset, .unset, .unset, .unset, .unset, .unset, .unset]) rfl ?_
    show Steps p.tables e below (s₁.setTop (mkF m 48 #[.val (.long q1), .second, .val (.long q2), .second, .val (.long q3), .second, .val (.int p4), .val (.long (own_r q1)), .second, .val (.long (own_t q1 q2)), .second, .val (.long (own_t2 q1 q2 q3)), .second, .unset, .unset, .unset, .unset, .unset, .unset, .unset, .unset, .unset, .unset, .unset, .unset, .unset, .unset, .unset, .unset] [])) _
    refine XS.iload X0.here hx rfl (hb hby at_48) rfl ?_
    show Steps p.tables e below (s₁.setTop (mkF m 50 #[.val (.long q1), .second, .val (.long q2), .second, .val (.long q3), .second, .val (.int p4), .val (.long (own_r q1)), .second, .val (.long (own_t q1 q2)), .second, .val (.long (own_t2 q1 q2 q3)), .second, .unset, .unset, .unset, .unset, .unset, .unset, .unset, .unset, .unset, .unset, .unset, .unset, .unset, .unset, .unset, .unset] [(.int p4)])) _
    refine X0.ldcInt hx hown (mvT hZ (hw _ (List.mem_of_getElem? (i := 1) rfl))) (g := (mkF m 50 #[.val (.long q1), .second, .val (.long q2), .second, .val (.long q3), .second, .val (.int p4), .val (.long (own_r q1)), .second, .val (.long (own_t q1 q2)), .second, .val (.long (own_t2 q1 q2 q3)), .second, .unset, .unset, .unset, .unset, .unset, .unset, .unset, .unset, .unset, .unset, .unset, .unset, .unset, .unset, .unset, .unset] [(.int p4)])) rfl (hb hby at_50) _ ?_
    show Steps p.tables e below (s₁.setTop (mkF m 52 #[.val (.long q1), .second, .val (.long q2), .second, .val (.long q3), .second, .val (.int p4), .val (.long (own_r q1)), .second, .val (.long (own_t q1 q2)), .second, .val (.long (own_t2 q1 q2 q3)), .second, .unset, .unset, .unset, .unset, .unset, .unset, .unset, .unset, .unset, .unset, .unset, .unset, .unset, .unset, .unset, .unset] [(.int (2147483647 : Int32)), (.int p4)])) _
    refine XS.iand X0.here hx rfl (hb hby at_52) rfl ?_
    show Steps p.tables e below (s₁.setTop (mkF m 53 #[.val (.long q1), .second, .val (.long q2), .second, .val (.long q3), .second, .val (.int p4), .val (.long (own_r q1)), .second, .val (.long (own_t q1 q2)), .second, .val (.long (own_t2 q1 q2 q3)), .second, .unset, .unset, .unset, .unset, .unset, .unset, .unset, .unset, .unset, .unset, .unset, .unset, .unset, .unset, .unset, .unset] [(.int (p4 &&& (2147483647 : Int32)))])) _
    refine XS.bipush X0.here hx rfl (hb hby at_53) ?_
    show Steps p.tables e below (s₁.setTop (mkF m 55 #[.val (.long q1), .second, .val (.long q2), .second, .val (.long q3), .second, .val (.int p4), .val (.long (own_r q1)), .second, .val (.long (own_t q1 q2)), .second, .val (.long (own_t2 q1 q2 q3)), .second, .unset, .unset, .unset, .unset, .unset, .unset, .unset, .unset, .unset, .unset, .unset, .unset, .unset, .unset, .unset, .unset] [(.int (63 : Int32)), (.int (p4 &&& (2147483647 : Int32)))])) _
    refine XS.irem X0.here hx rfl (hb hby at_55) rfl (by decide) ?_
    show Steps p.tables e below (s₁.setTop (mkF m 56 #[.val (.long q1), .second, .val (.long q2), .second, .val (.long q3), .second, .val (.int p4), .val (.long (own_r q1)), .second, .val (.long (own_t q1 q2)), .second, .val (.long (own_t2 q1 q2 q3)), .second, .unset, .unset, .unset, .unset, .unset, .unset, .unset, .unset, .unset, .unset, .unset, .unset, .unset, .unset, .unset, .unset] [(.int ((p4 &&& (2147483647 : Int32)) - ((p4 &&& (2147483647 : Int32)) / (63 : Int32)) * (63 : Int32)))])) _
    refine XS.istore X0.here hx rfl (hb hby at_56) rfl (l' := #[.val (.long q1), .second, .val (.long q2), .second, .val (.long q3), .second, .val (.int p4), .val (.long (own_r q1)), .second, .val (.long (own_t q1 q2)), .second, .val (.long (own_t2 q1 q2 q3)), .second, .val (.int ((p4 &&& (2147483647 : Int32)) - ((p4 &&& (2147483647 : Int32)) / (63 : Int32)) * (63 : Int32))), .unset, .unset, .unset, .unset, .unset, .unset, .unset, .unset, .unset, .unset, .unset, .unset, .unset, .unset, .unset]) rfl ?_
    show Steps p.tables e below (s₁.setTop (mkF m 58 #[.val (.long q1), .second, .val (.long q2), .second, .val (.long q3), .second, .val (.int p4), .val (.long (own_r q1)), .second, .val (.long (own_t q1 q2)), .second, .val (.long (own_t2 q1 q2 q3)), .second, .val (.int (own_k p4)), .unset, .unset, .unset, .unset, .unset, .unset, .unset, .unset, .unset, .unset, .unset, .unset, .unset, .unset, .unset] [])) _
    refine XS.lconst X0.here hx rfl (hb hby at_58) ?_
    show Steps p.tables e below (s₁.setTop (mkF m 59 #[.val (.long q1), .second, .val (.long q2), .second, .val (.long q3), .second, .val (.int p4), .val (.long (own_r q1)), .second, .val (.long (own_t q1 q2)), .second, .val (.long (own_t2 q1 q2 q3)), .second, .val (.int (own_k p4)), .unset, .unset, .unset, .unset, .unset, .unset, .unset, .unset, .unset, .unset, .unset, .unset, .unset, .unset, .unset] [(.long (1 : Int64))])) _
    refine XS.iload X0.here hx rfl (hb hby at_59) rfl ?_
    show Steps p.tables e below (s₁.setTop (mkF m 61 #[.val (.long q1), .second, .val (.long q2), .second, .val (.long q3), .second, .val (.int p4), .val (.long (own_r q1)), .second, .val (.long (own_t q1 q2)), .second, .val (.long (own_t2 q1 q2 q3)), .second, .val (.int (own_k p4)), .unset, .unset, .unset, .unset, .unset, .unset, .unset, .unset, .unset, .unset, .unset, .unset, .unset, .unset, .unset] [(.int (own_k p4)), (.long (1 : Int64))])) _
    refine XS.lshl X0.here hx rfl (hb hby at_61) rfl ?_
    show Steps p.tables e below (s₁.setTop (mkF m 62 #[.val (.long q1), .second, .val (.long q2), .second, .val (.long q3), .second, .val (.int p4), .val (.long (own_r q1)), .second, .val (.long (own_t q1 q2)), .second, .val (.long (own_t2 q1 q2 q3)), .second, .val (.int (own_k p4)), .unset, .unset, .unset, .unset, .unset, .unset, .unset, .unset, .unset, .unset, .unset, .unset, .unset, .unset, .unset] [(.long ((1 : Int64) <<< ((own_k p4) &&& 0x3f).toInt64))])) _
    refine XS.lstore X0.here hx rfl (hb hby at_62) rfl (l' := #[.val (.long q1), .second, .val (.long q2), .second, .val (.long q3), .second, .val (.int p4), .val (.long (own_r q1)), .second, .val (.long (own_t q1 q2)), .second, .val (.long (own_t2 q1 q2 q3)), .second, .val (.int (own_k p4)), .val (.long ((1 : Int64) <<< ((own_k p4) &&& 0x3f).toInt64)), .second, .unset, .unset, .unset, .unset, .unset, .unset, .unset, .unset, .unset, .unset, .unset, .unset, .unset]) rfl ?_
    show Steps p.tables e below (s₁.setTop (mkF m 64 #[.val (.long q1), .second, .val (.long q2), .second, .val (.long q3), .second, .val (.int p4), .val (.long (own_r q1)), .second, .val (.long (own_t q1 q2)), .second, .val (.long (own_t2 q1 q2 q3)), .second, .val (.int (own_k p4)), .val (.long (own_r3 p4)), .second, .unset, .unset, .unset, .unset, .unset, .unset, .unset, .unset, .unset, .unset, .unset, .unset, .unset] [])) _
    refine XS.lloadN X0.here hx rfl (hb hby at_64) rfl ?_
    show Steps p.tables e below (s₁.setTop (mkF m 65 #[.val (.long q1), .second, .val (.long q2), .second, .val (.long q3), .second, .val (.int p4), .val (.long (own_r q1)), .second, .val (.long (own_t q1 q2)), .second, .val (.long (own_t2 q1 q2 q3)), .second, .val (.int (own_k p4)), .val (.long (own_r3 p4)), .second, .unset, .unset, .unset, .unset, .unset, .unset, .unset, .unset, .unset, .unset, .unset, .unset, .unset] [(.long q2)])) _
    refine X0.ldc2Long hx hown (mvT hZ (hw _ (List.mem_of_getElem? (i := 0) rfl))) (g := (mkF m 65 #[.val (.long q1), .second, .val (.long q2), .second, .val (.long q3), .second, .val (.int p4), .val (.long (own_r q1)), .second, .val (.long (own_t q1 q2)), .second, .val (.long (own_t2 q1 q2 q3)), .second, .val (.int (own_k p4)), .val (.long (own_r3 p4)), .second, .unset, .unset, .unset, .unset, .unset, .unset, .unset, .unset, .unset, .unset, .unset, .unset, .unset] [(.long q2)])) rfl (hb hby at_65) _ ?_
    show Steps p.tables e below (s₁.setTop (mkF m 68 #[.val (.long q1), .second, .val (.long q2), .second, .val (.long q3), .second, .val (.int p4), .val (.long (own_r q1)), .second, .val (.long (own_t q1 q2)), .second, .val (.long (own_t2 q1 q2 q3)), .second, .val (.int (own_k p4)), .val (.long (own_r3 p4)), .second, .unset, .unset, .unset, .unset, .unset, .unset, .unset, .unset, .unset, .unset, .unset, .unset, .unset] [(.long (9223372036854775807 : Int64)), (.long q2)])) _
    refine XS.land X0.here hx rfl (hb hby at_68) rfl ?_
    show Steps p.tables e below (s₁.setTop (mkF m 69 #[.val (.long q1), .second, .val (.long q2), .second, .val (.long q3), .second, .val (.int p4), .val (.long (own_r q1)), .second, .val (.long (own_t q1 q2)), .second, .val (.long (own_t2 q1 q2 q3)), .second, .val (.int (own_k p4)), .val (.long (own_r3 p4)), .second, .unset, .unset, .unset, .unset, .unset, .unset, .unset, .unset, .unset, .unset, .unset, .unset, .unset] [(.long (own_m q2))])) _
    refine XS.lload X0.here hx rfl (hb hby at_69) rfl ?_
    show Steps p.tables e below (s₁.setTop (mkF m 71 #[.val (.long q1), .second, .val (.long q2), .second, .val (.long q3), .second, .val (.int p4), .val (.long (own_r q1)), .second, .val (.long (own_t q1 q2)), .second, .val (.long (own_t2 q1 q2 q3)), .second, .val (.int (own_k p4)), .val (.long (own_r3 p4)), .second, .unset, .unset, .unset, .unset, .unset, .unset, .unset, .unset, .unset, .unset, .unset, .unset, .unset] [(.long (own_r3 p4)), (.long (own_m q2))])) _
    refine XS.lconst X0.here hx rfl (hb hby at_71) ?_
    show Steps p.tables e below (s₁.setTop (mkF m 72 #[.val (.long q1), .second, .val (.long q2), .second, .val (.long q3), .second, .val (.int p4), .val (.long (own_r q1)), .second, .val (.long (own_t q1 q2)), .second, .val (.long (own_t2 q1 q2 q3)), .second, .val (.int (own_k p4)), .val (.long (own_r3 p4)), .second, .unset, .unset, .unset, .unset, .unset, .unset, .unset, .unset, .unset, .unset, .unset, .unset, .unset] [(.long (1 : Int64)), (.long (own_r3 p4)), (.long (own_m q2))])) _
    refine XS.ladd X0.here hx rfl (hb hby at_72) rfl ?_
    show Steps p.tables e below (s₁.setTop (mkF m 73 #[.val (.long q1), .second, .val (.long q2), .second, .val (.long q3), .second, .val (.int p4), .val (.long (own_r q1)), .second, .val (.long (own_t q1 q2)), .second, .val (.long (own_t2 q1 q2 q3)), .second, .val (.int (own_k p4)), .val (.long (own_r3 p4)), .second, .unset, .unset, .unset, .unset, .unset, .unset, .unset, .unset, .unset, .unset, .unset, .unset, .unset] [(.long ((own_r3 p4) + (1 : Int64))), (.long (own_m q2))])) _
    refine XS.lrem X0.here hx rfl (hb hby at_73) rfl (own_nz (by have := own_r3_rng p4; omega)) ?_
    show Steps p.tables e below (s₁.setTop (mkF m 74 #[.val (.long q1), .second, .val (.long q2), .second, .val (.long q3), .second, .val (.int p4), .val (.long (own_r q1)), .second, .val (.long (own_t q1 q2)), .second, .val (.long (own_t2 q1 q2 q3)), .second, .val (.int (own_k p4)), .val (.long (own_r3 p4)), .second, .unset, .unset, .unset, .unset, .unset, .unset, .unset, .unset, .unset, .unset, .unset, .unset, .unset] [(.long ((own_m q2) - ((own_m q2) / ((own_r3 p4) + (1 : Int64))) * ((own_r3 p4) + (1 : Int64))))])) _
    refine XS.lstore X0.here hx rfl (hb hby at_74) rfl (l' := #[.val (.long q1), .second, .val (.long q2), .second, .val (.long q3), .second, .val (.int p4), .val (.long (own_r q1)), .second, .val (.long (own_t q1 q2)), .second, .val (.long (own_t2 q1 q2 q3)), .second, .val (.int (own_k p4)), .val (.long (own_r3 p4)), .second, .val (.long ((own_m q2) - ((own_m q2) / ((own_r3 p4) + (1 : Int64))) * ((own_r3 p4) + (1 : Int64)))), .second, .unset, .unset, .unset, .unset, .unset, .unset, .unset, .unset, .unset, .unset, .unset]) rfl ?_
    show Steps p.tables e below (s₁.setTop (mkF m 76 #[.val (.long q1), .second, .val (.long q2), .second, .val (.long q3), .second, .val (.int p4), .val (.long (own_r q1)), .second, .val (.long (own_t q1 q2)), .second, .val (.long (own_t2 q1 q2 q3)), .second, .val (.int (own_k p4)), .val (.long (own_r3 p4)), .second, .val (.long (own_t3 q2 p4)), .second, .unset, .unset, .unset, .unset, .unset, .unset, .unset, .unset, .unset, .unset, .unset] [])) _
    refine XS.lload X0.here hx rfl (hb hby at_76) rfl ?_
    show Steps p.tables e below (s₁.setTop (mkF m 78 #[.val (.long q1), .second, .val (.long q2), .second, .val (.long q3), .second, .val (.int p4), .val (.long (own_r q1)), .second, .val (.long (own_t q1 q2)), .second, .val (.long (own_t2 q1 q2 q3)), .second, .val (.int (own_k p4)), .val (.long (own_r3 p4)), .second, .val (.long (own_t3 q2 p4)), .second, .unset, .unset, .unset, .unset, .unset, .unset, .unset, .unset, .unset, .unset, .unset] [(.long (own_r q1))])) _
    refine XS.lload X0.here hx rfl (hb hby at_78) rfl ?_
    exact kt
  obtain ⟨_, _, ⟨T2, L2, k2, n2⟩, -, X2', hS2', hge2, ⟨Lc2, hQ2, l2, y2, z2⟩, st2⟩ := callSS X0 hx (y := (⟨"com/example/antechamber/antechamber/bench/ResultTimedOutFractionPinLaw", "fraction", "(JJ)D"⟩ : MethodName)) hown (mvT hZ (hw _ (List.mem_of_getElem? (i := 2) rfl))) (mvT hZ (hw _ (List.mem_of_getElem? (i := 3) rfl))) (mvT hZ (hw _ (List.mem_of_getElem? (i := 4) rfl))) (mvT hZ (hw _ (List.mem_of_getElem? (i := 5) rfl))) (by decide) (backOfS (W := 0) (rm_fc l Z a0 hw [] (own_r q1) (own_t q1 q2) h0 n0 Z0 (own_r_rng q1) (own_t_rng q1 q2).1) hZ (hw _ (List.mem_of_getElem? (i := 5) rfl)) (hw _ (List.mem_of_getElem? (i := 4) rfl)) (by decide) (by decide)) (g := (mkF m 80 #[.val (.long q1), .second, .val (.long q2), .second, .val (.long q3), .second, .val (.int p4), .val (.long (own_r q1)), .second, .val (.long (own_t q1 q2)), .second, .val (.long (own_t2 q1 q2 q3)), .second, .val (.int (own_k p4)), .val (.long (own_r3 p4)), .second, .val (.long (own_t3 q2 p4)), .second, .unset, .unset, .unset, .unset, .unset, .unset, .unset, .unset, .unset, .unset, .unset] [(.long (own_t q1 q2)), (.long (own_r q1))])) rfl (by rw [hml]; rfl) (argsL := [(.long (own_r q1)), (.long (own_t q1 q2))]) (rest := []) (lenOf pd__JJ_D_297 rfl) rfl (by show 2 * 0 + _ ≤ _; exact Nat.le_of_eq rfl) (hb hby at_80) (fun _ _ => ⟨rfl, e0, (by decide : 0 + 3 ≤ _), (by decide : 0 + 57 ≤ _)⟩)
  dsimp only [Pt.U, Pt.locs, Pt.cells, Pt.slots] at X2' hS2' hge2 l2 y2 z2 st2 hQ2
  subst l2 y2 z2
  have hS2 : s.Since T2.vm T2.heap.size := hS2'
  have hZ : Z.Warmed39 (s.setVm T2.vm).vm := State.Warmed39.trans (t := s) hZ hS2'.1
  have hown : (s.setVm T2.vm).vm.findClass "com/example/antechamber/antechamber/bench/ResultTimedOutFractionPinLaw" = some m.cls := by rw [show (s.setVm T2.vm).vm = T2.vm from rfl, hS2'.1.alike.findClass]; exact hown
  have X2 := rebase (vm := T2.vm) X2'
  obtain ⟨rfl, N2q, K2⟩ := hQ2
  have Z2 : n0 ≤ T2.heap.size := Nat.le_trans Z0 K2.1
  have hk2 : T2.heap.size ≤ T2.heap.size := Nat.le_refl _
  have N2 := Fr.app N0 N2q
  have pre_5 : ∀ t, Steps p.tables e below (T2.setTop (mkF m 89 #[.val (.long q1), .second, .val (.long q2), .second, .val (.long q3), .second, .val (.int p4), .val (.long (own_r q1)), .second, .val (.long (own_t q1 q2)), .second, .val (.long (own_t2 q1 q2 q3)), .second, .val (.int (own_k p4)), .val (.long (own_r3 p4)), .second, .val (.long (own_t3 q2 p4)), .second, .val (.double (own_fr (own_r q1) (own_t q1 q2))), .second, .unset, .unset, .unset, .unset, .unset, .unset, .unset, .unset, .unset] [(.long (own_t2 q1 q2 q3)), (.long (own_r q1))])) t → Steps p.tables e below (s₁.setTop (entryFrame m #[(.long q1), (.long q2), (.long q3), (.int p4)] maxLocals)) t := by
    intro t kt
    refine pre_3 _ ?_
    show Steps p.tables e below (s₁.setTop (mkF m 80 #[.val (.long q1), .second, .val (.long q2), .second, .val (.long q3), .second, .val (.int p4), .val (.long (own_r q1)), .second, .val (.long (own_t q1 q2)), .second, .val (.long (own_t2 q1 q2 q3)), .second, .val (.int (own_k p4)), .val (.long (own_r3 p4)), .second, .val (.long (own_t3 q2 p4)), .second, .unset, .unset, .unset, .unset, .unset, .unset, .unset, .unset, .unset, .unset, .unset] [(.long (own_t q1 q2)), (.long (own_r q1))])) _
    refine st2.trans ?_
    show Steps p.tables e below (T2.setTop (mkF m 83 #[.val (.long q1), .second, .val (.long q2), .second, .val (.long q3), .second, .val (.int p4), .val (.long (own_r q1)), .second, .val (.long (own_t q1 q2)), .second, .val (.long (own_t2 q1 q2 q3)), .second, .val (.int (own_k p4)), .val (.long (own_r3 p4)), .second, .val (.long (own_t3 q2 p4)), .second, .unset, .unset, .unset, .unset, .unset, .unset, .unset, .unset, .unset, .unset, .unset] [(.double (own_fr (own_r q1) (own_t q1 q2)))])) _
    refine XS.dstore X2.here hx rfl (hb hby at_83) rfl (l' := #[.val (.long q1), .second, .val (.long q2), .second, .val (.long q3), .second, .val (.int p4), .val (.long (own_r q1)), .second, .val (.long (own_t q1 q2)), .second, .val (.long (own_t2 q1 q2 q3)), .second, .val (.int (own_k p4)), .val (.long (own_r3 p4)), .second, .val (.long (own_t3 q2 p4)), .second, .val (.double (own_fr (own_r q1) (own_t q1 q2))), .second, .unset, .unset, .unset, .unset, .unset, .unset, .unset, .unset, .unset]) rfl ?_
    show Steps p.tables e below (T2.setTop (mkF m 85 #[.val (.long q1), .second, .val (.long q2), .second, .val (.long q3), .second, .val (.int p4), .val (.long (own_r q1)), .second, .val (.long (own_t q1 q2)), .second, .val (.long (own_t2 q1 q2 q3)), .second, .val (.int (own_k p4)), .val (.long (own_r3 p4)), .second, .val (.long (own_t3 q2 p4)), .second, .val (.double (own_fr (own_r q1) (own_t q1 q2))), .second, .unset, .unset, .unset, .unset, .unset, .unset, .unset, .unset, .unset] [])) _
    refine XS.lload X2.here hx rfl (hb hby at_85) rfl ?_
    show Steps p.tables e below (T2.setTop (mkF m 87 #[.val (.long q1), .second, .val (.long q2), .second, .val (.long q3), .second, .val (.int p4), .val (.long (own_r q1)), .second, .val (.long (own_t q1 q2)), .second, .val (.long (own_t2 q1 q2 q3)), .second, .val (.int (own_k p4)), .val (.long (own_r3 p4)), .second, .val (.long (own_t3 q2 p4)), .second, .val (.double (own_fr (own_r q1) (own_t q1 q2))), .second, .unset, .unset, .unset, .unset, .unset, .unset, .unset, .unset, .unset] [(.long (own_r q1))])) _
    refine XS.lload X2.here hx rfl (hb hby at_87) rfl ?_
    exact kt
  obtain ⟨_, _, ⟨T4, L4, k4, n4⟩, -, X4', hS4', hge4, ⟨Lc4, hQ4, l4, y4, z4⟩, st4⟩ := callSS X2 hx (y := (⟨"com/example/antechamber/antechamber/bench/ResultTimedOutFractionPinLaw", "fraction", "(JJ)D"⟩ : MethodName)) hown (mvT hZ (hw _ (List.mem_of_getElem? (i := 2) rfl))) (mvT hZ (hw _ (List.mem_of_getElem? (i := 3) rfl))) (mvT hZ (hw _ (List.mem_of_getElem? (i := 4) rfl))) (mvT hZ (hw _ (List.mem_of_getElem? (i := 5) rfl))) (by decide) (backOfS (W := 0) (rm_fc l Z a0 hw [] (own_r q1) (own_t2 q1 q2 q3) T2.heap n0 Z2 (own_r_rng q1) (by have h1 := own_t_rng q1 q2; have h2 := own_t2_rng q1 q2 q3; omega)) hZ (hw _ (List.mem_of_getElem? (i := 5) rfl)) (hw _ (List.mem_of_getElem? (i := 4) rfl)) (by decide) (by decide)) (g := (mkF m 89 #[.val (.long q1), .second, .val (.long q2), .second, .val (.long q3), .second, .val (.int p4), .val (.long (own_r q1)), .second, .val (.long (own_t q1 q2)), .second, .val (.long (own_t2 q1 q2 q3)), .second, .val (.int (own_k p4)), .val (.long (own_r3 p4)), .second, .val (.long (own_t3 q2 p4)), .second, .val (.double (own_fr (own_r q1) (own_t q1 q2))), .second, .unset, .unset, .unset, .unset, .unset, .unset, .unset, .unset, .unset] [(.long (own_t2 q1 q2 q3)), (.long (own_r q1))])) rfl (by rw [hml]; rfl) (argsL := [(.long (own_r q1)), (.long (own_t2 q1 q2 q3))]) (rest := []) (lenOf pd__JJ_D_297 rfl) rfl (by show 2 * 0 + _ ≤ _; exact Nat.le_of_eq rfl) (hb hby at_89) (fun _ _ => ⟨rfl, rfl, (by decide : 3 + 3 ≤ _), (by decide : 57 + 57 ≤ _)⟩)
  dsimp only [Pt.U, Pt.locs, Pt.cells, Pt.slots] at X4' hS4' hge4 l4 y4 z4 st4 hQ4
  subst l4 y4 z4
  have hS4 : s.Since T4.vm T4.heap.size := foldS hS2 hk2 hS4' hge4
  have hZ : Z.Warmed39 (s.setVm T4.vm).vm := State.Warmed39.trans (t := (s.setVm T2.vm)) hZ hS4'.1
  have hown : (s.setVm T4.vm).vm.findClass "com/example/antechamber/antechamber/bench/ResultTimedOutFractionPinLaw" = some m.cls := by rw [show (s.setVm T4.vm).vm = T4.vm from rfl, hS4'.1.alike.findClass]; exact hown
  have X4 := rebase (vm := T4.vm) X4'
  obtain ⟨rfl, N4q, K4⟩ := hQ4
  have Z4 : n0 ≤ T4.heap.size := Nat.le_trans Z2 K4.1
  have hk4 : T4.heap.size ≤ T4.heap.size := Nat.le_refl _
  have N4 := Fr.app N2 N4q
  have pre_7 : ∀ t, Steps p.tables e below (T4.setTop (mkF m 98 #[.val (.long q1), .second, .val (.long q2), .second, .val (.long q3), .second, .val (.int p4), .val (.long (own_r q1)), .second, .val (.long (own_t q1 q2)), .second, .val (.long (own_t2 q1 q2 q3)), .second, .val (.int (own_k p4)), .val (.long (own_r3 p4)), .second, .val (.long (own_t3 q2 p4)), .second, .val (.double (own_fr (own_r q1) (own_t q1 q2))), .second, .val (.double (own_fr (own_r q1) (own_t2 q1 q2 q3))), .second, .unset, .unset, .unset, .unset, .unset, .unset, .unset] [(.long (own_t3 q2 p4)), (.long (own_r3 p4))])) t → Steps p.tables e below (s₁.setTop (entryFrame m #[(.long q1), (.long q2), (.long q3), (.int p4)] maxLocals)) t := by
    intro t kt
    refine pre_5 _ ?_
    show Steps p.tables e below (T2.setTop (mkF m 89 #[.val (.long q1), .second, .val (.long q2), .second, .val (.long q3), .second, .val (.int p4), .val (.long (own_r q1)), .second, .val (.long (own_t q1 q2)), .second, .val (.long (own_t2 q1 q2 q3)), .second, .val (.int (own_k p4)), .val (.long (own_r3 p4)), .second, .val (.long (own_t3 q2 p4)), .second, .val (.double (own_fr (own_r q1) (own_t q1 q2))), .second, .unset, .unset, .unset, .unset, .unset, .unset, .unset, .unset, .unset] [(.long (own_t2 q1 q2 q3)), (.long (own_r q1))])) _
    refine st4.trans ?_
    show Steps p.tables e below (T4.setTop (mkF m 92 #[.val (.long q1), .second, .val (.long q2), .second, .val (.long q3), .second, .val (.int p4), .val (.long (own_r q1)), .second, .val (.long (own_t q1 q2)), .second, .val (.long (own_t2 q1 q2 q3)), .second, .val (.int (own_k p4)), .val (.long (own_r3 p4)), .second, .val (.long (own_t3 q2 p4)), .second, .val (.double (own_fr (own_r q1) (own_t q1 q2))), .second, .unset, .unset, .unset, .unset, .unset, .unset, .unset, .unset, .unset] [(.double (own_fr (own_r q1) (own_t2 q1 q2 q3)))])) _
    refine XS.dstore X4.here hx rfl (hb hby at_92) rfl (l' := #[.val (.long q1), .second, .val (.long q2), .second, .val (.long q3), .second, .val (.int p4), .val (.long (own_r q1)), .second, .val (.long (own_t q1 q2)), .second, .val (.long (own_t2 q1 q2 q3)), .second, .val (.int (own_k p4)), .val (.long (own_r3 p4)), .second, .val (.long (own_t3 q2 p4)), .second, .val (.double (own_fr (own_r q1) (own_t q1 q2))), .second, .val (.double (own_fr (own_r q1) (own_t2 q1 q2 q3))), .second, .unset, .unset, .unset, .unset, .unset, .unset, .unset]) rfl ?_
    show Steps p.tables e below (T4.setTop (mkF m 94 #[.val (.long q1), .second, .val (.long q2), .second, .val (.long q3), .second, .val (.int p4), .val (.long (own_r q1)), .second, .val (.long (own_t q1 q2)), .second, .val (.long (own_t2 q1 q2 q3)), .second, .val (.int (own_k p4)), .val (.long (own_r3 p4)), .second, .val (.long (own_t3 q2 p4)), .second, .val (.double (own_fr (own_r q1) (own_t q1 q2))), .second, .val (.double (own_fr (own_r q1) (own_t2 q1 q2 q3))), .second, .unset, .unset, .unset, .unset, .unset, .unset, .unset] [])) _
    refine XS.lload X4.here hx rfl (hb hby at_94) rfl ?_
    show Steps p.tables e below (T4.setTop (mkF m 96 #[.val (.long q1), .second, .val (.long q2), .second, .val (.long q3), .second, .val (.int p4), .val (.long (own_r q1)), .second, .val (.long (own_t q1 q2)), .second, .val (.long (own_t2 q1 q2 q3)), .second, .val (.int (own_k p4)), .val (.long (own_r3 p4)), .second, .val (.long (own_t3 q2 p4)), .second, .val (.double (own_fr (own_r q1) (own_t q1 q2))), .second, .val (.double (own_fr (own_r q1) (own_t2 q1 q2 q3))), .second, .unset, .unset, .unset, .unset, .unset, .unset, .unset] [(.long (own_r3 p4))])) _
    refine XS.lload X4.here hx rfl (hb hby at_96) rfl ?_
    exact kt
  obtain ⟨_, _, ⟨T6, L6, k6, n6⟩, -, X6', hS6', hge6, ⟨Lc6, hQ6, l6, y6, z6⟩, st6⟩ := callSS X4 hx (y := (⟨"com/example/antechamber/antechamber/bench/ResultTimedOutFractionPinLaw", "fraction", "(JJ)D"⟩ : MethodName)) hown (mvT hZ (hw _ (List.mem_of_getElem? (i := 2) rfl))) (mvT hZ (hw _ (List.mem_of_getElem? (i := 3) rfl))) (mvT hZ (hw _ (List.mem_of_getElem? (i := 4) rfl))) (mvT hZ (hw _ (List.mem_of_getElem? (i := 5) rfl))) (by decide) (backOfS (W := 0) (rm_fc l Z a0 hw [] (own_r3 p4) (own_t3 q2 p4) T4.heap n0 Z4 (own_r3_rng p4) (own_t3_rng q2 p4)) hZ (hw _ (List.mem_of_getElem? (i := 5) rfl)) (hw _ (List.mem_of_getElem? (i := 4) rfl)) (by decide) (by decide)) (g := (mkF m 98 #[.val (.long q1), .second, .val (.long q2), .second, .val (.long q3), .second, .val (.int p4), .val (.long (own_r q1)), .second, .val (.long (own_t q1 q2)), .second, .val (.long (own_t2 q1 q2 q3)), .second, .val (.int (own_k p4)), .val (.long (own_r3 p4)), .second, .val (.long (own_t3 q2 p4)), .second, .val (.double (own_fr (own_r q1) (own_t q1 q2))), .second, .val (.double (own_fr (own_r q1) (own_t2 q1 q2 q3))), .second, .unset, .unset, .unset, .unset, .unset, .unset, .unset] [(.long (own_t3 q2 p4)), (.long (own_r3 p4))])) rfl (by rw [hml]; rfl) (argsL := [(.long (own_r3 p4)), (.long (own_t3 q2 p4))]) (rest := []) (lenOf pd__JJ_D_297 rfl) rfl (by show 2 * 0 + _ ≤ _; exact Nat.le_of_eq rfl) (hb hby at_98) (fun _ _ => ⟨rfl, rfl, (by decide : 6 + 3 ≤ _), (by decide : 114 + 57 ≤ _)⟩)
  dsimp only [Pt.U, Pt.locs, Pt.cells, Pt.slots] at X6' hS6' hge6 l6 y6 z6 st6 hQ6
  subst l6 y6 z6
  have hS6 : s.Since T6.vm T6.heap.size := foldS hS4 hk4 hS6' hge6
  have hZ : Z.Warmed39 (s.setVm T6.vm).vm := State.Warmed39.trans (t := (s.setVm T4.vm)) hZ hS6'.1
  have hown : (s.setVm T6.vm).vm.findClass "com/example/antechamber/antechamber/bench/ResultTimedOutFractionPinLaw" = some m.cls := by rw [show (s.setVm T6.vm).vm = T6.vm from rfl, hS6'.1.alike.findClass]; exact hown
  have X6 := rebase (vm := T6.vm) X6'
  obtain ⟨rfl, N6q, K6⟩ := hQ6
  have Z6 : n0 ≤ T6.heap.size := Nat.le_trans Z4 K6.1
  have hk6 : T6.heap.size ≤ T6.heap.size := Nat.le_refl _
  have N6 := Fr.app N4 N6q
  have pre_8 : ∀ t, Steps p.tables e below (T6.setTop (mkF m 136 #[.val (.long q1), .second, .val (.long q2), .second, .val (.long q3), .second, .val (.int p4), .val (.long (own_r q1)), .second, .val (.long (own_t q1 q2)), .second, .val (.long (own_t2 q1 q2 q3)), .second, .val (.int (own_k p4)), .val (.long (own_r3 p4)), .second, .val (.long (own_t3 q2 p4)), .second, .val (.double (own_fr (own_r q1) (own_t q1 q2))), .second, .val (.double (own_fr (own_r q1) (own_t2 q1 q2 q3))), .second, .val (.double (own_fr (own_r3 p4) (own_t3 q2 p4))), .second, .val (.int (1 : Int32)), .unset, .unset, .unset, .unset] [(.int (if (cmpValue (FP.dcmp (own_fr (own_r q1) (own_t q1 q2)) FP.dconst0) .l) = (0 : Int32) then (1 : Int32) else (0 : Int32)))])) t → Steps p.tables e below (s₁.setTop (entryFrame m #[(.long q1), (.long q2), (.long q3), (.int p4)] maxLocals)) t := by
    intro t kt
    refine pre_7 _ ?_
    show Steps p.tables e below (T4.setTop (mkF m 98 #[.val (.long q1), .second, .val (.long q2), .second, .val (.long q3), .second, .val (.int p4), .val (.long (own_r q1)), .second, .val (.long (own_t q1 q2)), .second, .val (.long (own_t2 q1 q2 q3)), .second, .val (.int (own_k p4)), .val (.long (own_r3 p4)), .second, .val (.long (own_t3 q2 p4)), .second, .val (.double (own_fr (own_r q1) (own_t q1 q2))), .second, .val (.double (own_fr (own_r q1) (own_t2 q1 q2 q3))), .second, .unset, .unset, .unset, .unset, .unset, .unset, .unset] [(.long (own_t3 q2 p4)), (.long (own_r3 p4))])) _
    refine st6.trans ?_
    show Steps p.tables e below (T6.setTop (mkF m 101 #[.val (.long q1), .second, .val (.long q2), .second, .val (.long q3), .second, .val (.int p4), .val (.long (own_r q1)), .second, .val (.long (own_t q1 q2)), .second, .val (.long (own_t2 q1 q2 q3)), .second, .val (.int (own_k p4)), .val (.long (own_r3 p4)), .second, .val (.long (own_t3 q2 p4)), .second, .val (.double (own_fr (own_r q1) (own_t q1 q2))), .second, .val (.double (own_fr (own_r q1) (own_t2 q1 q2 q3))), .second, .unset, .unset, .unset, .unset, .unset, .unset, .unset] [(.double (own_fr (own_r3 p4) (own_t3 q2 p4)))])) _
    refine XS.dstore X6.here hx rfl (hb hby at_101) rfl (l' := #[.val (.long q1), .second, .val (.long q2), .second, .val (.long q3), .second, .val (.int p4), .val (.long (own_r q1)), .second, .val (.long (own_t q1 q2)), .second, .val (.long (own_t2 q1 q2 q3)), .second, .val (.int (own_k p4)), .val (.long (own_r3 p4)), .second, .val (.long (own_t3 q2 p4)), .second, .val (.double (own_fr (own_r q1) (own_t q1 q2))), .second, .val (.double (own_fr (own_r q1) (own_t2 q1 q2 q3))), .second, .val (.double (own_fr (own_r3 p4) (own_t3 q2 p4))), .second, .unset, .unset, .unset, .unset, .unset]) rfl ?_
    show Steps p.tables e below (T6.setTop (mkF m 103 #[.val (.long q1), .second, .val (.long q2), .second, .val (.long q3), .second, .val (.int p4), .val (.long (own_r q1)), .second, .val (.long (own_t q1 q2)), .second, .val (.long (own_t2 q1 q2 q3)), .second, .val (.int (own_k p4)), .val (.long (own_r3 p4)), .second, .val (.long (own_t3 q2 p4)), .second, .val (.double (own_fr (own_r q1) (own_t q1 q2))), .second, .val (.double (own_fr (own_r q1) (own_t2 q1 q2 q3))), .second, .val (.double (own_fr (own_r3 p4) (own_t3 q2 p4))), .second, .unset, .unset, .unset, .unset, .unset] [])) _
    refine XS.dconst0 X6.here hx rfl (hb hby at_103) rfl ?_
    show Steps p.tables e below (T6.setTop (mkF m 104 #[.val (.long q1), .second, .val (.long q2), .second, .val (.long q3), .second, .val (.int p4), .val (.long (own_r q1)), .second, .val (.long (own_t q1 q2)), .second, .val (.long (own_t2 q1 q2 q3)), .second, .val (.int (own_k p4)), .val (.long (own_r3 p4)), .second, .val (.long (own_t3 q2 p4)), .second, .val (.double (own_fr (own_r q1) (own_t q1 q2))), .second, .val (.double (own_fr (own_r q1) (own_t2 q1 q2 q3))), .second, .val (.double (own_fr (own_r3 p4) (own_t3 q2 p4))), .second, .unset, .unset, .unset, .unset, .unset] [(.double FP.dconst0)])) _
    refine XS.dload X6.here hx rfl (hb hby at_104) rfl ?_
    show Steps p.tables e below (T6.setTop (mkF m 106 #[.val (.long q1), .second, .val (.long q2), .second, .val (.long q3), .second, .val (.int p4), .val (.long (own_r q1)), .second, .val (.long (own_t q1 q2)), .second, .val (.long (own_t2 q1 q2 q3)), .second, .val (.int (own_k p4)), .val (.long (own_r3 p4)), .second, .val (.long (own_t3 q2 p4)), .second, .val (.double (own_fr (own_r q1) (own_t q1 q2))), .second, .val (.double (own_fr (own_r q1) (own_t2 q1 q2 q3))), .second, .val (.double (own_fr (own_r3 p4) (own_t3 q2 p4))), .second, .unset, .unset, .unset, .unset, .unset] [(.double (own_fr (own_r q1) (own_t q1 q2))), (.double FP.dconst0)])) _
    refine XS.dcmpS X6.here hx rfl (hb hby at_106) rfl rfl ?_
    show Steps p.tables e below (T6.setTop (mkF m 107 #[.val (.long q1), .second, .val (.long q2), .second, .val (.long q3), .second, .val (.int p4), .val (.long (own_r q1)), .second, .val (.long (own_t q1 q2)), .second, .val (.long (own_t2 q1 q2 q3)), .second, .val (.int (own_k p4)), .val (.long (own_r3 p4)), .second, .val (.long (own_t3 q2 p4)), .second, .val (.double (own_fr (own_r q1) (own_t q1 q2))), .second, .val (.double (own_fr (own_r q1) (own_t2 q1 q2 q3))), .second, .val (.double (own_fr (own_r3 p4) (own_t3 q2 p4))), .second, .unset, .unset, .unset, .unset, .unset] [(.int (cmpValue (FP.dcmp FP.dconst0 (own_fr (own_r q1) (own_t q1 q2))) .g))])) _
    refine XS.ifNo X6.here hx rfl (hb hby at_107) rfl ((if0 _ _).trans (flt (own_b0 (own_r_rng q1) (own_t_rng q1 q2).1)).2.2.1) ?_
    show Steps p.tables e below (T6.setTop (mkF m 110 #[.val (.long q1), .second, .val (.long q2), .second, .val (.long q3), .second, .val (.int p4), .val (.long (own_r q1)), .second, .val (.long (own_t q1 q2)), .second, .val (.long (own_t2 q1 q2 q3)), .second, .val (.int (own_k p4)), .val (.long (own_r3 p4)), .second, .val (.long (own_t3 q2 p4)), .second, .val (.double (own_fr (own_r q1) (own_t q1 q2))), .second, .val (.double (own_fr (own_r q1) (own_t2 q1 q2 q3))), .second, .val (.double (own_fr (own_r3 p4) (own_t3 q2 p4))), .second, .unset, .unset, .unset, .unset, .unset] [])) _
    refine XS.dload X6.here hx rfl (hb hby at_110) rfl ?_
    show Steps p.tables e below (T6.setTop (mkF m 112 #[.val (.long q1), .second, .val (.long q2), .second, .val (.long q3), .second, .val (.int p4), .val (.long (own_r q1)), .second, .val (.long (own_t q1 q2)), .second, .val (.long (own_t2 q1 q2 q3)), .second, .val (.int (own_k p4)), .val (.long (own_r3 p4)), .second, .val (.long (own_t3 q2 p4)), .second, .val (.double (own_fr (own_r q1) (own_t q1 q2))), .second, .val (.double (own_fr (own_r q1) (own_t2 q1 q2 q3))), .second, .val (.double (own_fr (own_r3 p4) (own_t3 q2 p4))), .second, .unset, .unset, .unset, .unset, .unset] [(.double (own_fr (own_r q1) (own_t q1 q2)))])) _
    refine XS.dconst1 X6.here hx rfl (hb hby at_112) rfl ?_
    show Steps p.tables e below (T6.setTop (mkF m 113 #[.val (.long q1), .second, .val (.long q2), .second, .val (.long q3), .second, .val (.int p4), .val (.long (own_r q1)), .second, .val (.long (own_t q1 q2)), .second, .val (.long (own_t2 q1 q2 q3)), .second, .val (.int (own_k p4)), .val (.long (own_r3 p4)), .second, .val (.long (own_t3 q2 p4)), .second, .val (.double (own_fr (own_r q1) (own_t q1 q2))), .second, .val (.double (own_fr (own_r q1) (own_t2 q1 q2 q3))), .second, .val (.double (own_fr (own_r3 p4) (own_t3 q2 p4))), .second, .unset, .unset, .unset, .unset, .unset] [(.double FP.dconst1), (.double (own_fr (own_r q1) (own_t q1 q2)))])) _
    refine XS.dcmpS X6.here hx rfl (hb hby at_113) rfl rfl ?_
    show Steps p.tables e below (T6.setTop (mkF m 114 #[.val (.long q1), .second, .val (.long q2), .second, .val (.long q3), .second, .val (.int p4), .val (.long (own_r q1)), .second, .val (.long (own_t q1 q2)), .second, .val (.long (own_t2 q1 q2 q3)), .second, .val (.int (own_k p4)), .val (.long (own_r3 p4)), .second, .val (.long (own_t3 q2 p4)), .second, .val (.double (own_fr (own_r q1) (own_t q1 q2))), .second, .val (.double (own_fr (own_r q1) (own_t2 q1 q2 q3))), .second, .val (.double (own_fr (own_r3 p4) (own_t3 q2 p4))), .second, .unset, .unset, .unset, .unset, .unset] [(.int (cmpValue (FP.dcmp (own_fr (own_r q1) (own_t q1 q2)) FP.dconst1) .g))])) _
    refine XS.ifNo X6.here hx rfl (hb hby at_114) rfl ((if0 _ _).trans (flt (own_b1 (own_r_rng q1) (own_t_rng q1 q2).1 (own_t_rng q1 q2).2)).2.2.1) ?_
    show Steps p.tables e below (T6.setTop (mkF m 117 #[.val (.long q1), .second, .val (.long q2), .second, .val (.long q3), .second, .val (.int p4), .val (.long (own_r q1)), .second, .val (.long (own_t q1 q2)), .second, .val (.long (own_t2 q1 q2 q3)), .second, .val (.int (own_k p4)), .val (.long (own_r3 p4)), .second, .val (.long (own_t3 q2 p4)), .second, .val (.double (own_fr (own_r q1) (own_t q1 q2))), .second, .val (.double (own_fr (own_r q1) (own_t2 q1 q2 q3))), .second, .val (.double (own_fr (own_r3 p4) (own_t3 q2 p4))), .second, .unset, .unset, .unset, .unset, .unset] [])) _
    refine XS.iconst X6.here hx rfl (hb hby at_117) ?_
    show Steps p.tables e below (T6.setTop (mkF m 118 #[.val (.long q1), .second, .val (.long q2), .second, .val (.long q3), .second, .val (.int p4), .val (.long (own_r q1)), .second, .val (.long (own_t q1 q2)), .second, .val (.long (own_t2 q1 q2 q3)), .second, .val (.int (own_k p4)), .val (.long (own_r3 p4)), .second, .val (.long (own_t3 q2 p4)), .second, .val (.double (own_fr (own_r q1) (own_t q1 q2))), .second, .val (.double (own_fr (own_r q1) (own_t2 q1 q2 q3))), .second, .val (.double (own_fr (own_r3 p4) (own_t3 q2 p4))), .second, .unset, .unset, .unset, .unset, .unset] [(.int (1 : Int32))])) _
    refine XS.goto X6.here hx rfl (pc0 := 118) (pc' := 122) rfl (hb hby at_118) (by decide) (by decide) ?_
    show Steps p.tables e below (T6.setTop (mkF m 122 #[.val (.long q1), .second, .val (.long q2), .second, .val (.long q3), .second, .val (.int p4), .val (.long (own_r q1)), .second, .val (.long (own_t q1 q2)), .second, .val (.long (own_t2 q1 q2 q3)), .second, .val (.int (own_k p4)), .val (.long (own_r3 p4)), .second, .val (.long (own_t3 q2 p4)), .second, .val (.double (own_fr (own_r q1) (own_t q1 q2))), .second, .val (.double (own_fr (own_r q1) (own_t2 q1 q2 q3))), .second, .val (.double (own_fr (own_r3 p4) (own_t3 q2 p4))), .second, .unset, .unset, .unset, .unset, .unset] [(.int (1 : Int32))])) _
    refine XS.istore X6.here hx rfl (hb hby at_122) rfl (l' := #[.val (.long q1), .second, .val (.long q2), .second, .val (.long q3), .second, .val (.int p4), .val (.long (own_r q1)), .second, .val (.long (own_t q1 q2)), .second, .val (.long (own_t2 q1 q2 q3)), .second, .val (.int (own_k p4)), .val (.long (own_r3 p4)), .second, .val (.long (own_t3 q2 p4)), .second, .val (.double (own_fr (own_r q1) (own_t q1 q2))), .second, .val (.double (own_fr (own_r q1) (own_t2 q1 q2 q3))), .second, .val (.double (own_fr (own_r3 p4) (own_t3 q2 p4))), .second, .val (.int (1 : Int32)), .unset, .unset, .unset, .unset]) rfl ?_
    show Steps p.tables e below (T6.setTop (mkF m 124 #[.val (.long q1), .second, .val (.long q2), .second, .val (.long q3), .second, .val (.int p4), .val (.long (own_r q1)), .second, .val (.long (own_t q1 q2)), .second, .val (.long (own_t2 q1 q2 q3)), .second, .val (.int (own_k p4)), .val (.long (own_r3 p4)), .second, .val (.long (own_t3 q2 p4)), .second, .val (.double (own_fr (own_r q1) (own_t q1 q2))), .second, .val (.double (own_fr (own_r q1) (own_t2 q1 q2 q3))), .second, .val (.double (own_fr (own_r3 p4) (own_t3 q2 p4))), .second, .val (.int (1 : Int32)), .unset, .unset, .unset, .unset] [])) _
    refine XS.dload X6.here hx rfl (hb hby at_124) rfl ?_
    show Steps p.tables e below (T6.setTop (mkF m 126 #[.val (.long q1), .second, .val (.long q2), .second, .val (.long q3), .second, .val (.int p4), .val (.long (own_r q1)), .second, .val (.long (own_t q1 q2)), .second, .val (.long (own_t2 q1 q2 q3)), .second, .val (.int (own_k p4)), .val (.long (own_r3 p4)), .second, .val (.long (own_t3 q2 p4)), .second, .val (.double (own_fr (own_r q1) (own_t q1 q2))), .second, .val (.double (own_fr (own_r q1) (own_t2 q1 q2 q3))), .second, .val (.double (own_fr (own_r3 p4) (own_t3 q2 p4))), .second, .val (.int (1 : Int32)), .unset, .unset, .unset, .unset] [(.double (own_fr (own_r q1) (own_t q1 q2)))])) _
    refine XS.dconst0 X6.here hx rfl (hb hby at_126) rfl ?_
    show Steps p.tables e below (T6.setTop (mkF m 127 #[.val (.long q1), .second, .val (.long q2), .second, .val (.long q3), .second, .val (.int p4), .val (.long (own_r q1)), .second, .val (.long (own_t q1 q2)), .second, .val (.long (own_t2 q1 q2 q3)), .second, .val (.int (own_k p4)), .val (.long (own_r3 p4)), .second, .val (.long (own_t3 q2 p4)), .second, .val (.double (own_fr (own_r q1) (own_t q1 q2))), .second, .val (.double (own_fr (own_r q1) (own_t2 q1 q2 q3))), .second, .val (.double (own_fr (own_r3 p4) (own_t3 q2 p4))), .second, .val (.int (1 : Int32)), .unset, .unset, .unset, .unset] [(.double FP.dconst0), (.double (own_fr (own_r q1) (own_t q1 q2)))])) _
    refine XS.dcmpS X6.here hx rfl (hb hby at_127) rfl rfl ?_
    show Steps p.tables e below (T6.setTop (mkF m 128 #[.val (.long q1), .second, .val (.long q2), .second, .val (.long q3), .second, .val (.int p4), .val (.long (own_r q1)), .second, .val (.long (own_t q1 q2)), .second, .val (.long (own_t2 q1 q2 q3)), .second, .val (.int (own_k p4)), .val (.long (own_r3 p4)), .second, .val (.long (own_t3 q2 p4)), .second, .val (.double (own_fr (own_r q1) (own_t q1 q2))), .second, .val (.double (own_fr (own_r q1) (own_t2 q1 q2 q3))), .second, .val (.double (own_fr (own_r3 p4) (own_t3 q2 p4))), .second, .val (.int (1 : Int32)), .unset, .unset, .unset, .unset] [(.int (cmpValue (FP.dcmp (own_fr (own_r q1) (own_t q1 q2)) FP.dconst0) .l))])) _
    by_cases hc128 : (cmpValue (FP.dcmp (own_fr (own_r q1) (own_t q1 q2)) FP.dconst0) .l) = (0 : Int32)
    · rw [if_pos hc128] at kt
      refine XS.ifNo X6.here hx rfl (hb hby at_128) rfl ((if0 _ _).trans (teq hc128).2) ?_
      show Steps p.tables e below (T6.setTop (mkF m 131 #[.val (.long q1), .second, .val (.long q2), .second, .val (.long q3), .second, .val (.int p4), .val (.long (own_r q1)), .second, .val (.long (own_t q1 q2)), .second, .val (.long (own_t2 q1 q2 q3)), .second, .val (.int (own_k p4)), .val (.long (own_r3 p4)), .second, .val (.long (own_t3 q2 p4)), .second, .val (.double (own_fr (own_r q1) (own_t q1 q2))), .second, .val (.double (own_fr (own_r q1) (own_t2 q1 q2 q3))), .second, .val (.double (own_fr (own_r3 p4) (own_t3 q2 p4))), .second, .val (.int (1 : Int32)), .unset, .unset, .unset, .unset] [])) _
      refine XS.iconst X6.here hx rfl (hb hby at_131) ?_
      show Steps p.tables e below (T6.setTop (mkF m 132 #[.val (.long q1), .second, .val (.long q2), .second, .val (.long q3), .second, .val (.int p4), .val (.long (own_r q1)), .second, .val (.long (own_t q1 q2)), .second, .val (.long (own_t2 q1 q2 q3)), .second, .val (.int (own_k p4)), .val (.long (own_r3 p4)), .second, .val (.long (own_t3 q2 p4)), .second, .val (.double (own_fr (own_r q1) (own_t q1 q2))), .second, .val (.double (own_fr (own_r q1) (own_t2 q1 q2 q3))), .second, .val (.double (own_fr (own_r3 p4) (own_t3 q2 p4))), .second, .val (.int (1 : Int32)), .unset, .unset, .unset, .unset] [(.int (1 : Int32))])) _
      refine XS.goto X6.here hx rfl (pc0 := 132) (pc' := 136) rfl (hb hby at_132) (by decide) (by decide) ?_
      exact kt
    · rw [if_neg hc128] at kt
      refine XS.ifYes X6.here hx rfl (pc0 := 128) (pc' := 135) rfl (hb hby at_128) rfl ((if0 _ _).trans (feq hc128).2) (by decide) (by decide) ?_
      show Steps p.tables e below (T6.setTop (mkF m 135 #[.val (.long q1), .second, .val (.long q2), .second, .val (.long q3), .second, .val (.int p4), .val (.long (own_r q1)), .second, .val (.long (own_t q1 q2)), .second, .val (.long (own_t2 q1 q2 q3)), .second, .val (.int (own_k p4)), .val (.long (own_r3 p4)), .second, .val (.long (own_t3 q2 p4)), .second, .val (.double (own_fr (own_r q1) (own_t q1 q2))), .second, .val (.double (own_fr (own_r q1) (own_t2 q1 q2 q3))), .second, .val (.double (own_fr (own_r3 p4) (own_t3 q2 p4))), .second, .val (.int (1 : Int32)), .unset, .unset, .unset, .unset] [])) _
      refine XS.iconst X6.here hx rfl (hb hby at_135) ?_
      exact kt
  have pre_9 : ∀ t, Steps p.tables e below (T6.setTop (mkF m 148 #[.val (.long q1), .second, .val (.long q2), .second, .val (.long q3), .second, .val (.int p4), .val (.long (own_r q1)), .second, .val (.long (own_t q1 q2)), .second, .val (.long (own_t2 q1 q2 q3)), .second, .val (.int (own_k p4)), .val (.long (own_r3 p4)), .second, .val (.long (own_t3 q2 p4)), .second, .val (.double (own_fr (own_r q1) (own_t q1 q2))), .second, .val (.double (own_fr (own_r q1) (own_t2 q1 q2 q3))), .second, .val (.double (own_fr (own_r3 p4) (own_t3 q2 p4))), .second, .val (.int (1 : Int32)), .unset, .unset, .unset, .unset] [(.int (if (lcmpW (own_t q1 q2) (0 : Int64)) = (0 : Int32) then (1 : Int32) else (0 : Int32))), (.int (if (cmpValue (FP.dcmp (own_fr (own_r q1) (own_t q1 q2)) FP.dconst0) .l) = (0 : Int32) then (1 : Int32) else (0 : Int32)))])) t → Steps p.tables e below (s₁.setTop (entryFrame m #[(.long q1), (.long q2), (.long q3), (.int p4)] maxLocals)) t := by
    intro t kt
    refine pre_8 _ ?_
    show Steps p.tables e below (T6.setTop (mkF m 136 #[.val (.long q1), .second, .val (.long q2), .second, .val (.long q3), .second, .val (.int p4), .val (.long (own_r q1)), .second, .val (.long (own_t q1 q2)), .second, .val (.long (own_t2 q1 q2 q3)), .second, .val (.int (own_k p4)), .val (.long (own_r3 p4)), .second, .val (.long (own_t3 q2 p4)), .second, .val (.double (own_fr (own_r q1) (own_t q1 q2))), .second, .val (.double (own_fr (own_r q1) (own_t2 q1 q2 q3))), .second, .val (.double (own_fr (own_r3 p4) (own_t3 q2 p4))), .second, .val (.int (1 : Int32)), .unset, .unset, .unset, .unset] [(.int (if (cmpValue (FP.dcmp (own_fr (own_r q1) (own_t q1 q2)) FP.dconst0) .l) = (0 : Int32) then (1 : Int32) else (0 : Int32)))])) _
    refine XS.lload X6.here hx rfl (hb hby at_136) rfl ?_
    show Steps p.tables e below (T6.setTop (mkF m 138 #[.val (.long q1), .second, .val (.long q2), .second, .val (.long q3), .second, .val (.int p4), .val (.long (own_r q1)), .second, .val (.long (own_t q1 q2)), .second, .val (.long (own_t2 q1 q2 q3)), .second, .val (.int (own_k p4)), .val (.long (own_r3 p4)), .second, .val (.long (own_t3 q2 p4)), .second, .val (.double (own_fr (own_r q1) (own_t q1 q2))), .second, .val (.double (own_fr (own_r q1) (own_t2 q1 q2 q3))), .second, .val (.double (own_fr (own_r3 p4) (own_t3 q2 p4))), .second, .val (.int (1 : Int32)), .unset, .unset, .unset, .unset] [(.long (own_t q1 q2)), (.int (if (cmpValue (FP.dcmp (own_fr (own_r q1) (own_t q1 q2)) FP.dconst0) .l) = (0 : Int32) then (1 : Int32) else (0 : Int32)))])) _
    refine XS.lconst X6.here hx rfl (hb hby at_138) ?_
    show Steps p.tables e below (T6.setTop (mkF m 139 #[.val (.long q1), .second, .val (.long q2), .second, .val (.long q3), .second, .val (.int p4), .val (.long (own_r q1)), .second, .val (.long (own_t q1 q2)), .second, .val (.long (own_t2 q1 q2 q3)), .second, .val (.int (own_k p4)), .val (.long (own_r3 p4)), .second, .val (.long (own_t3 q2 p4)), .second, .val (.double (own_fr (own_r q1) (own_t q1 q2))), .second, .val (.double (own_fr (own_r q1) (own_t2 q1 q2 q3))), .second, .val (.double (own_fr (own_r3 p4) (own_t3 q2 p4))), .second, .val (.int (1 : Int32)), .unset, .unset, .unset, .unset] [(.long (0 : Int64)), (.long (own_t q1 q2)), (.int (if (cmpValue (FP.dcmp (own_fr (own_r q1) (own_t q1 q2)) FP.dconst0) .l) = (0 : Int32) then (1 : Int32) else (0 : Int32)))])) _
    refine XS.lcmp X6.here hx rfl (hb hby at_139) rfl ?_
    show Steps p.tables e below (T6.setTop (mkF m 140 #[.val (.long q1), .second, .val (.long q2), .second, .val (.long q3), .second, .val (.int p4), .val (.long (own_r q1)), .second, .val (.long (own_t q1 q2)), .second, .val (.long (own_t2 q1 q2 q3)), .second, .val (.int (own_k p4)), .val (.long (own_r3 p4)), .second, .val (.long (own_t3 q2 p4)), .second, .val (.double (own_fr (own_r q1) (own_t q1 q2))), .second, .val (.double (own_fr (own_r q1) (own_t2 q1 q2 q3))), .second, .val (.double (own_fr (own_r3 p4) (own_t3 q2 p4))), .second, .val (.int (1 : Int32)), .unset, .unset, .unset, .unset] [(.int (lcmpW (own_t q1 q2) (0 : Int64))), (.int (if (cmpValue (FP.dcmp (own_fr (own_r q1) (own_t q1 q2)) FP.dconst0) .l) = (0 : Int32) then (1 : Int32) else (0 : Int32)))])) _
    by_cases hc140 : (lcmpW (own_t q1 q2) (0 : Int64)) = (0 : Int32)
    · rw [if_pos hc140] at kt
      refine XS.ifNo X6.here hx rfl (hb hby at_140) rfl ((if0 _ _).trans (teq hc140).2) ?_
      show Steps p.tables e below (T6.setTop (mkF m 143 #[.val (.long q1), .second, .val (.long q2), .second, .val (.long q3), .second, .val (.int p4), .val (.long (own_r q1)), .second, .val (.long (own_t q1 q2)), .second, .val (.long (own_t2 q1 q2 q3)), .second, .val (.int (own_k p4)), .val (.long (own_r3 p4)), .second, .val (.long (own_t3 q2 p4)), .second, .val (.double (own_fr (own_r q1) (own_t q1 q2))), .second, .val (.double (own_fr (own_r q1) (own_t2 q1 q2 q3))), .second, .val (.double (own_fr (own_r3 p4) (own_t3 q2 p4))), .second, .val (.int (1 : Int32)), .unset, .unset, .unset, .unset] [(.int (if (cmpValue (FP.dcmp (own_fr (own_r q1) (own_t q1 q2)) FP.dconst0) .l) = (0 : Int32) then (1 : Int32) else (0 : Int32)))])) _
      refine XS.iconst X6.here hx rfl (hb hby at_143) ?_
      show Steps p.tables e below (T6.setTop (mkF m 144 #[.val (.long q1), .second, .val (.long q2), .second, .val (.long q3), .second, .val (.int p4), .val (.long (own_r q1)), .second, .val (.long (own_t q1 q2)), .second, .val (.long (own_t2 q1 q2 q3)), .second, .val (.int (own_k p4)), .val (.long (own_r3 p4)), .second, .val (.long (own_t3 q2 p4)), .second, .val (.double (own_fr (own_r q1) (own_t q1 q2))), .second, .val (.double (own_fr (own_r q1) (own_t2 q1 q2 q3))), .second, .val (.double (own_fr (own_r3 p4) (own_t3 q2 p4))), .second, .val (.int (1 : Int32)), .unset, .unset, .unset, .unset] [(.int (1 : Int32)), (.int (if (cmpValue (FP.dcmp (own_fr (own_r q1) (own_t q1 q2)) FP.dconst0) .l) = (0 : Int32) then (1 : Int32) else (0 : Int32)))])) _
      refine XS.goto X6.here hx rfl (pc0 := 144) (pc' := 148) rfl (hb hby at_144) (by decide) (by decide) ?_
      exact kt
    · rw [if_neg hc140] at kt
      refine XS.ifYes X6.here hx rfl (pc0 := 140) (pc' := 147) rfl (hb hby at_140) rfl ((if0 _ _).trans (feq hc140).2) (by decide) (by decide) ?_
      show Steps p.tables e below (T6.setTop (mkF m 147 #[.val (.long q1), .second, .val (.long q2), .second, .val (.long q3), .second, .val (.int p4), .val (.long (own_r q1)), .second, .val (.long (own_t q1 q2)), .second, .val (.long (own_t2 q1 q2 q3)), .second, .val (.int (own_k p4)), .val (.long (own_r3 p4)), .second, .val (.long (own_t3 q2 p4)), .second, .val (.double (own_fr (own_r q1) (own_t q1 q2))), .second, .val (.double (own_fr (own_r q1) (own_t2 q1 q2 q3))), .second, .val (.double (own_fr (own_r3 p4) (own_t3 q2 p4))), .second, .val (.int (1 : Int32)), .unset, .unset, .unset, .unset] [(.int (if (cmpValue (FP.dcmp (own_fr (own_r q1) (own_t q1 q2)) FP.dconst0) .l) = (0 : Int32) then (1 : Int32) else (0 : Int32)))])) _
      refine XS.iconst X6.here hx rfl (hb hby at_147) ?_
      exact kt
  have pre_10 : ∀ t, Steps p.tables e below (T6.setTop (mkF m 173 #[.val (.long q1), .second, .val (.long q2), .second, .val (.long q3), .second, .val (.int p4), .val (.long (own_r q1)), .second, .val (.long (own_t q1 q2)), .second, .val (.long (own_t2 q1 q2 q3)), .second, .val (.int (own_k p4)), .val (.long (own_r3 p4)), .second, .val (.long (own_t3 q2 p4)), .second, .val (.double (own_fr (own_r q1) (own_t q1 q2))), .second, .val (.double (own_fr (own_r q1) (own_t2 q1 q2 q3))), .second, .val (.double (own_fr (own_r3 p4) (own_t3 q2 p4))), .second, .val (.int (1 : Int32)), .val (.int (1 : Int32)), .unset, .unset, .unset] [])) t → Steps p.tables e below (s₁.setTop (entryFrame m #[(.long q1), (.long q2), (.long q3), (.int p4)] maxLocals)) t := by
    intro t kt
    refine pre_9 _ ?_
    show Steps p.tables e below (T6.setTop (mkF m 148 #[.val (.long q1), .second, .val (.long q2), .second, .val (.long q3), .second, .val (.int p4), .val (.long (own_r q1)), .second, .val (.long (own_t q1 q2)), .second, .val (.long (own_t2 q1 q2 q3)), .second, .val (.int (own_k p4)), .val (.long (own_r3 p4)), .second, .val (.long (own_t3 q2 p4)), .second, .val (.double (own_fr (own_r q1) (own_t q1 q2))), .second, .val (.double (own_fr (own_r q1) (own_t2 q1 q2 q3))), .second, .val (.double (own_fr (own_r3 p4) (own_t3 q2 p4))), .second, .val (.int (1 : Int32)), .unset, .unset, .unset, .unset] [(.int (if (lcmpW (own_t q1 q2) (0 : Int64)) = (0 : Int32) then (1 : Int32) else (0 : Int32))), (.int (if (cmpValue (FP.dcmp (own_fr (own_r q1) (own_t q1 q2)) FP.dconst0) .l) = (0 : Int32) then (1 : Int32) else (0 : Int32)))])) _
    refine XS.icmpNo X6.here hx rfl (hb hby at_148) rfl (teq (own_zero (own_r_rng q1) (own_t_rng q1 q2).1)).2 ?_
    show Steps p.tables e below (T6.setTop (mkF m 151 #[.val (.long q1), .second, .val (.long q2), .second, .val (.long q3), .second, .val (.int p4), .val (.long (own_r q1)), .second, .val (.long (own_t q1 q2)), .second, .val (.long (own_t2 q1 q2 q3)), .second, .val (.int (own_k p4)), .val (.long (own_r3 p4)), .second, .val (.long (own_t3 q2 p4)), .second, .val (.double (own_fr (own_r q1) (own_t q1 q2))), .second, .val (.double (own_fr (own_r q1) (own_t2 q1 q2 q3))), .second, .val (.double (own_fr (own_r3 p4) (own_t3 q2 p4))), .second, .val (.int (1 : Int32)), .unset, .unset, .unset, .unset] [])) _
    refine XS.iconst X6.here hx rfl (hb hby at_151) ?_
    show Steps p.tables e below (T6.setTop (mkF m 152 #[.val (.long q1), .second, .val (.long q2), .second, .val (.long q3), .second, .val (.int p4), .val (.long (own_r q1)), .second, .val (.long (own_t q1 q2)), .second, .val (.long (own_t2 q1 q2 q3)), .second, .val (.int (own_k p4)), .val (.long (own_r3 p4)), .second, .val (.long (own_t3 q2 p4)), .second, .val (.double (own_fr (own_r q1) (own_t q1 q2))), .second, .val (.double (own_fr (own_r q1) (own_t2 q1 q2 q3))), .second, .val (.double (own_fr (own_r3 p4) (own_t3 q2 p4))), .second, .val (.int (1 : Int32)), .unset, .unset, .unset, .unset] [(.int (1 : Int32))])) _
    refine XS.goto X6.here hx rfl (pc0 := 152) (pc' := 156) rfl (hb hby at_152) (by decide) (by decide) ?_
    show Steps p.tables e below (T6.setTop (mkF m 156 #[.val (.long q1), .second, .val (.long q2), .second, .val (.long q3), .second, .val (.int p4), .val (.long (own_r q1)), .second, .val (.long (own_t q1 q2)), .second, .val (.long (own_t2 q1 q2 q3)), .second, .val (.int (own_k p4)), .val (.long (own_r3 p4)), .second, .val (.long (own_t3 q2 p4)), .second, .val (.double (own_fr (own_r q1) (own_t q1 q2))), .second, .val (.double (own_fr (own_r q1) (own_t2 q1 q2 q3))), .second, .val (.double (own_fr (own_r3 p4) (own_t3 q2 p4))), .second, .val (.int (1 : Int32)), .unset, .unset, .unset, .unset] [(.int (1 : Int32))])) _
    refine XS.istore X6.here hx rfl (hb hby at_156) rfl (l' := #[.val (.long q1), .second, .val (.long q2), .second, .val (.long q3), .second, .val (.int p4), .val (.long (own_r q1)), .second, .val (.long (own_t q1 q2)), .second, .val (.long (own_t2 q1 q2 q3)), .second, .val (.int (own_k p4)), .val (.long (own_r3 p4)), .second, .val (.long (own_t3 q2 p4)), .second, .val (.double (own_fr (own_r q1) (own_t q1 q2))), .second, .val (.double (own_fr (own_r q1) (own_t2 q1 q2 q3))), .second, .val (.double (own_fr (own_r3 p4) (own_t3 q2 p4))), .second, .val (.int (1 : Int32)), .val (.int (1 : Int32)), .unset, .unset, .unset]) rfl ?_
    show Steps p.tables e below (T6.setTop (mkF m 158 #[.val (.long q1), .second, .val (.long q2), .second, .val (.long q3), .second, .val (.int p4), .val (.long (own_r q1)), .second, .val (.long (own_t q1 q2)), .second, .val (.long (own_t2 q1 q2 q3)), .second, .val (.int (own_k p4)), .val (.long (own_r3 p4)), .second, .val (.long (own_t3 q2 p4)), .second, .val (.double (own_fr (own_r q1) (own_t q1 q2))), .second, .val (.double (own_fr (own_r q1) (own_t2 q1 q2 q3))), .second, .val (.double (own_fr (own_r3 p4) (own_t3 q2 p4))), .second, .val (.int (1 : Int32)), .val (.int (1 : Int32)), .unset, .unset, .unset] [])) _
    refine XS.lload X6.here hx rfl (hb hby at_158) rfl ?_
    show Steps p.tables e below (T6.setTop (mkF m 160 #[.val (.long q1), .second, .val (.long q2), .second, .val (.long q3), .second, .val (.int p4), .val (.long (own_r q1)), .second, .val (.long (own_t q1 q2)), .second, .val (.long (own_t2 q1 q2 q3)), .second, .val (.int (own_k p4)), .val (.long (own_r3 p4)), .second, .val (.long (own_t3 q2 p4)), .second, .val (.double (own_fr (own_r q1) (own_t q1 q2))), .second, .val (.double (own_fr (own_r q1) (own_t2 q1 q2 q3))), .second, .val (.double (own_fr (own_r3 p4) (own_t3 q2 p4))), .second, .val (.int (1 : Int32)), .val (.int (1 : Int32)), .unset, .unset, .unset] [(.long (own_t q1 q2))])) _
    refine XS.lload X6.here hx rfl (hb hby at_160) rfl ?_
    show Steps p.tables e below (T6.setTop (mkF m 162 #[.val (.long q1), .second, .val (.long q2), .second, .val (.long q3), .second, .val (.int p4), .val (.long (own_r q1)), .second, .val (.long (own_t q1 q2)), .second, .val (.long (own_t2 q1 q2 q3)), .second, .val (.int (own_k p4)), .val (.long (own_r3 p4)), .second, .val (.long (own_t3 q2 p4)), .second, .val (.double (own_fr (own_r q1) (own_t q1 q2))), .second, .val (.double (own_fr (own_r q1) (own_t2 q1 q2 q3))), .second, .val (.double (own_fr (own_r3 p4) (own_t3 q2 p4))), .second, .val (.int (1 : Int32)), .val (.int (1 : Int32)), .unset, .unset, .unset] [(.long (own_r q1)), (.long (own_t q1 q2))])) _
    refine XS.lcmp X6.here hx rfl (hb hby at_162) rfl ?_
    show Steps p.tables e below (T6.setTop (mkF m 163 #[.val (.long q1), .second, .val (.long q2), .second, .val (.long q3), .second, .val (.int p4), .val (.long (own_r q1)), .second, .val (.long (own_t q1 q2)), .second, .val (.long (own_t2 q1 q2 q3)), .second, .val (.int (own_k p4)), .val (.long (own_r3 p4)), .second, .val (.long (own_t3 q2 p4)), .second, .val (.double (own_fr (own_r q1) (own_t q1 q2))), .second, .val (.double (own_fr (own_r q1) (own_t2 q1 q2 q3))), .second, .val (.double (own_fr (own_r3 p4) (own_t3 q2 p4))), .second, .val (.int (1 : Int32)), .val (.int (1 : Int32)), .unset, .unset, .unset] [(.int (lcmpW (own_t q1 q2) (own_r q1)))])) _
    by_cases hc163 : (lcmpW (own_t q1 q2) (own_r q1)) = (0 : Int32)
    · skip
      refine XS.ifNo X6.here hx rfl (hb hby at_163) rfl ((if0 _ _).trans (teq hc163).2) ?_
      show Steps p.tables e below (T6.setTop (mkF m 166 #[.val (.long q1), .second, .val (.long q2), .second, .val (.long q3), .second, .val (.int p4), .val (.long (own_r q1)), .second, .val (.long (own_t q1 q2)), .second, .val (.long (own_t2 q1 q2 q3)), .second, .val (.int (own_k p4)), .val (.long (own_r3 p4)), .second, .val (.long (own_t3 q2 p4)), .second, .val (.double (own_fr (own_r q1) (own_t q1 q2))), .second, .val (.double (own_fr (own_r q1) (own_t2 q1 q2 q3))), .second, .val (.double (own_fr (own_r3 p4) (own_t3 q2 p4))), .second, .val (.int (1 : Int32)), .val (.int (1 : Int32)), .unset, .unset, .unset] [])) _
      refine XS.dload X6.here hx rfl (hb hby at_166) rfl ?_
      show Steps p.tables e below (T6.setTop (mkF m 168 #[.val (.long q1), .second, .val (.long q2), .second, .val (.long q3), .second, .val (.int p4), .val (.long (own_r q1)), .second, .val (.long (own_t q1 q2)), .second, .val (.long (own_t2 q1 q2 q3)), .second, .val (.int (own_k p4)), .val (.long (own_r3 p4)), .second, .val (.long (own_t3 q2 p4)), .second, .val (.double (own_fr (own_r q1) (own_t q1 q2))), .second, .val (.double (own_fr (own_r q1) (own_t2 q1 q2 q3))), .second, .val (.double (own_fr (own_r3 p4) (own_t3 q2 p4))), .second, .val (.int (1 : Int32)), .val (.int (1 : Int32)), .unset, .unset, .unset] [(.double (own_fr (own_r q1) (own_t q1 q2)))])) _
      refine XS.dconst1 X6.here hx rfl (hb hby at_168) rfl ?_
      show Steps p.tables e below (T6.setTop (mkF m 169 #[.val (.long q1), .second, .val (.long q2), .second, .val (.long q3), .second, .val (.int p4), .val (.long (own_r q1)), .second, .val (.long (own_t q1 q2)), .second, .val (.long (own_t2 q1 q2 q3)), .second, .val (.int (own_k p4)), .val (.long (own_r3 p4)), .second, .val (.long (own_t3 q2 p4)), .second, .val (.double (own_fr (own_r q1) (own_t q1 q2))), .second, .val (.double (own_fr (own_r q1) (own_t2 q1 q2 q3))), .second, .val (.double (own_fr (own_r3 p4) (own_t3 q2 p4))), .second, .val (.int (1 : Int32)), .val (.int (1 : Int32)), .unset, .unset, .unset] [(.double FP.dconst1), (.double (own_fr (own_r q1) (own_t q1 q2)))])) _
      refine XS.dcmpS X6.here hx rfl (hb hby at_169) rfl rfl ?_
      show Steps p.tables e below (T6.setTop (mkF m 170 #[.val (.long q1), .second, .val (.long q2), .second, .val (.long q3), .second, .val (.int p4), .val (.long (own_r q1)), .second, .val (.long (own_t q1 q2)), .second, .val (.long (own_t2 q1 q2 q3)), .second, .val (.int (own_k p4)), .val (.long (own_r3 p4)), .second, .val (.long (own_t3 q2 p4)), .second, .val (.double (own_fr (own_r q1) (own_t q1 q2))), .second, .val (.double (own_fr (own_r q1) (own_t2 q1 q2 q3))), .second, .val (.double (own_fr (own_r3 p4) (own_t3 q2 p4))), .second, .val (.int (1 : Int32)), .val (.int (1 : Int32)), .unset, .unset, .unset] [(.int (cmpValue (FP.dcmp (own_fr (own_r q1) (own_t q1 q2)) FP.dconst1) .l))])) _
      refine XS.ifNo X6.here hx rfl (hb hby at_170) rfl ((if0 _ _).trans (teq (own_whole (own_r_rng q1) hc163)).2) ?_
      exact kt
    · skip
      refine XS.ifYes X6.here hx rfl (pc0 := 163) (pc' := 173) rfl (hb hby at_163) rfl ((if0 _ _).trans (feq hc163).2) (by decide) (by decide) ?_
      exact kt
  obtain ⟨fs, hr, hrun, hended, hRW⟩ := X6.leaveW (s := s) hS6 hk6 (v := some (.int (1 : Int32))) (fun h => by rw [Bd.returns] at h; cases h) (hlocks := Bd.notSynchronized)
  refine ⟨_, _, pre_10 _ ?_, hrun, hended, _, _, rfl, ?_, hRW.1, hRW.2.1, hRW.2.2.1, hRW.2.2.2.mono (by decide) (by decide)⟩
  · show Steps p.tables e below (T6.setTop (mkF m 173 #[.val (.long q1), .second, .val (.long q2), .second, .val (.long q3), .second, .val (.int p4), .val (.long (own_r q1)), .second, .val (.long (own_t q1 q2)), .second, .val (.long (own_t2 q1 q2 q3)), .second, .val (.int (own_k p4)), .val (.long (own_r3 p4)), .second, .val (.long (own_t3 q2 p4)), .second, .val (.double (own_fr (own_r q1) (own_t q1 q2))), .second, .val (.double (own_fr (own_r q1) (own_t2 q1 q2 q3))), .second, .val (.double (own_fr (own_r3 p4) (own_t3 q2 p4))), .second, .val (.int (1 : Int32)), .val (.int (1 : Int32)), .unset, .unset, .unset] [])) _
    refine XS.iconst X6.here hx rfl (hb hby at_173) ?_
    show Steps p.tables e below (T6.setTop (mkF m 174 #[.val (.long q1), .second, .val (.long q2), .second, .val (.long q3), .second, .val (.int p4), .val (.long (own_r q1)), .second, .val (.long (own_t q1 q2)), .second, .val (.long (own_t2 q1 q2 q3)), .second, .val (.int (own_k p4)), .val (.long (own_r3 p4)), .second, .val (.long (own_t3 q2 p4)), .second, .val (.double (own_fr (own_r q1) (own_t q1 q2))), .second, .val (.double (own_fr (own_r q1) (own_t2 q1 q2 q3))), .second, .val (.double (own_fr (own_r3 p4) (own_t3 q2 p4))), .second, .val (.int (1 : Int32)), .val (.int (1 : Int32)), .unset, .unset, .unset] [(.int (1 : Int32))])) _
    refine XS.goto X6.here hx rfl (pc0 := 174) (pc' := 178) rfl (hb hby at_174) (by decide) (by decide) ?_
    show Steps p.tables e below (T6.setTop (mkF m 178 #[.val (.long q1), .second, .val (.long q2), .second, .val (.long q3), .second, .val (.int p4), .val (.long (own_r q1)), .second, .val (.long (own_t q1 q2)), .second, .val (.long (own_t2 q1 q2 q3)), .second, .val (.int (own_k p4)), .val (.long (own_r3 p4)), .second, .val (.long (own_t3 q2 p4)), .second, .val (.double (own_fr (own_r q1) (own_t q1 q2))), .second, .val (.double (own_fr (own_r q1) (own_t2 q1 q2 q3))), .second, .val (.double (own_fr (own_r3 p4) (own_t3 q2 p4))), .second, .val (.int (1 : Int32)), .val (.int (1 : Int32)), .unset, .unset, .unset] [(.int (1 : Int32))])) _
    refine XS.istore X6.here hx rfl (hb hby at_178) rfl (l' := #[.val (.long q1), .second, .val (.long q2), .second, .val (.long q3), .second, .val (.int p4), .val (.long (own_r q1)), .second, .val (.long (own_t q1 q2)), .second, .val (.long (own_t2 q1 q2 q3)), .second, .val (.int (own_k p4)), .val (.long (own_r3 p4)), .second, .val (.long (own_t3 q2 p4)), .second, .val (.double (own_fr (own_r q1) (own_t q1 q2))), .second, .val (.double (own_fr (own_r q1) (own_t2 q1 q2 q3))), .second, .val (.double (own_fr (own_r3 p4) (own_t3 q2 p4))), .second, .val (.int (1 : Int32)), .val (.int (1 : Int32)), .val (.int (1 : Int32)), .unset, .unset]) rfl ?_
    show Steps p.tables e below (T6.setTop (mkF m 180 #[.val (.long q1), .second, .val (.long q2), .second, .val (.long q3), .second, .val (.int p4), .val (.long (own_r q1)), .second, .val (.long (own_t q1 q2)), .second, .val (.long (own_t2 q1 q2 q3)), .second, .val (.int (own_k p4)), .val (.long (own_r3 p4)), .second, .val (.long (own_t3 q2 p4)), .second, .val (.double (own_fr (own_r q1) (own_t q1 q2))), .second, .val (.double (own_fr (own_r q1) (own_t2 q1 q2 q3))), .second, .val (.double (own_fr (own_r3 p4) (own_t3 q2 p4))), .second, .val (.int (1 : Int32)), .val (.int (1 : Int32)), .val (.int (1 : Int32)), .unset, .unset] [])) _
    refine XS.dload X6.here hx rfl (hb hby at_180) rfl ?_
    show Steps p.tables e below (T6.setTop (mkF m 182 #[.val (.long q1), .second, .val (.long q2), .second, .val (.long q3), .second, .val (.int p4), .val (.long (own_r q1)), .second, .val (.long (own_t q1 q2)), .second, .val (.long (own_t2 q1 q2 q3)), .second, .val (.int (own_k p4)), .val (.long (own_r3 p4)), .second, .val (.long (own_t3 q2 p4)), .second, .val (.double (own_fr (own_r q1) (own_t q1 q2))), .second, .val (.double (own_fr (own_r q1) (own_t2 q1 q2 q3))), .second, .val (.double (own_fr (own_r3 p4) (own_t3 q2 p4))), .second, .val (.int (1 : Int32)), .val (.int (1 : Int32)), .val (.int (1 : Int32)), .unset, .unset] [(.double (own_fr (own_r q1) (own_t q1 q2)))])) _
    refine XS.dload X6.here hx rfl (hb hby at_182) rfl ?_
    show Steps p.tables e below (T6.setTop (mkF m 184 #[.val (.long q1), .second, .val (.long q2), .second, .val (.long q3), .second, .val (.int p4), .val (.long (own_r q1)), .second, .val (.long (own_t q1 q2)), .second, .val (.long (own_t2 q1 q2 q3)), .second, .val (.int (own_k p4)), .val (.long (own_r3 p4)), .second, .val (.long (own_t3 q2 p4)), .second, .val (.double (own_fr (own_r q1) (own_t q1 q2))), .second, .val (.double (own_fr (own_r q1) (own_t2 q1 q2 q3))), .second, .val (.double (own_fr (own_r3 p4) (own_t3 q2 p4))), .second, .val (.int (1 : Int32)), .val (.int (1 : Int32)), .val (.int (1 : Int32)), .unset, .unset] [(.double (own_fr (own_r q1) (own_t2 q1 q2 q3))), (.double (own_fr (own_r q1) (own_t q1 q2)))])) _
    refine XS.dcmpS X6.here hx rfl (hb hby at_184) rfl rfl ?_
    show Steps p.tables e below (T6.setTop (mkF m 185 #[.val (.long q1), .second, .val (.long q2), .second, .val (.long q3), .second, .val (.int p4), .val (.long (own_r q1)), .second, .val (.long (own_t q1 q2)), .second, .val (.long (own_t2 q1 q2 q3)), .second, .val (.int (own_k p4)), .val (.long (own_r3 p4)), .second, .val (.long (own_t3 q2 p4)), .second, .val (.double (own_fr (own_r q1) (own_t q1 q2))), .second, .val (.double (own_fr (own_r q1) (own_t2 q1 q2 q3))), .second, .val (.double (own_fr (own_r3 p4) (own_t3 q2 p4))), .second, .val (.int (1 : Int32)), .val (.int (1 : Int32)), .val (.int (1 : Int32)), .unset, .unset] [(.int (cmpValue (FP.dcmp (own_fr (own_r q1) (own_t q1 q2)) (own_fr (own_r q1) (own_t2 q1 q2 q3))) .g))])) _
    refine XS.ifNo X6.here hx rfl (hb hby at_185) rfl ((if0 _ _).trans (flt (own_mon (own_r_rng q1) (own_t_rng q1 q2).1 (own_t2_rng q1 q2 q3).1 (own_t2_rng q1 q2 q3).2)).2.2.1) ?_
    show Steps p.tables e below (T6.setTop (mkF m 188 #[.val (.long q1), .second, .val (.long q2), .second, .val (.long q3), .second, .val (.int p4), .val (.long (own_r q1)), .second, .val (.long (own_t q1 q2)), .second, .val (.long (own_t2 q1 q2 q3)), .second, .val (.int (own_k p4)), .val (.long (own_r3 p4)), .second, .val (.long (own_t3 q2 p4)), .second, .val (.double (own_fr (own_r q1) (own_t q1 q2))), .second, .val (.double (own_fr (own_r q1) (own_t2 q1 q2 q3))), .second, .val (.double (own_fr (own_r3 p4) (own_t3 q2 p4))), .second, .val (.int (1 : Int32)), .val (.int (1 : Int32)), .val (.int (1 : Int32)), .unset, .unset] [])) _
    refine XS.iconst X6.here hx rfl (hb hby at_188) ?_
    show Steps p.tables e below (T6.setTop (mkF m 189 #[.val (.long q1), .second, .val (.long q2), .second, .val (.long q3), .second, .val (.int p4), .val (.long (own_r q1)), .second, .val (.long (own_t q1 q2)), .second, .val (.long (own_t2 q1 q2 q3)), .second, .val (.int (own_k p4)), .val (.long (own_r3 p4)), .second, .val (.long (own_t3 q2 p4)), .second, .val (.double (own_fr (own_r q1) (own_t q1 q2))), .second, .val (.double (own_fr (own_r q1) (own_t2 q1 q2 q3))), .second, .val (.double (own_fr (own_r3 p4) (own_t3 q2 p4))), .second, .val (.int (1 : Int32)), .val (.int (1 : Int32)), .val (.int (1 : Int32)), .unset, .unset] [(.int (1 : Int32))])) _
    refine XS.goto X6.here hx rfl (pc0 := 189) (pc' := 193) rfl (hb hby at_189) (by decide) (by decide) ?_
    show Steps p.tables e below (T6.setTop (mkF m 193 #[.val (.long q1), .second, .val (.long q2), .second, .val (.long q3), .second, .val (.int p4), .val (.long (own_r q1)), .second, .val (.long (own_t q1 q2)), .second, .val (.long (own_t2 q1 q2 q3)), .second, .val (.int (own_k p4)), .val (.long (own_r3 p4)), .second, .val (.long (own_t3 q2 p4)), .second, .val (.double (own_fr (own_r q1) (own_t q1 q2))), .second, .val (.double (own_fr (own_r q1) (own_t2 q1 q2 q3))), .second, .val (.double (own_fr (own_r3 p4) (own_t3 q2 p4))), .second, .val (.int (1 : Int32)), .val (.int (1 : Int32)), .val (.int (1 : Int32)), .unset, .unset] [(.int (1 : Int32))])) _
    refine XS.istore X6.here hx rfl (hb hby at_193) rfl (l' := #[.val (.long q1), .second, .val (.long q2), .second, .val (.long q3), .second, .val (.int p4), .val (.long (own_r q1)), .second, .val (.long (own_t q1 q2)), .second, .val (.long (own_t2 q1 q2 q3)), .second, .val (.int (own_k p4)), .val (.long (own_r3 p4)), .second, .val (.long (own_t3 q2 p4)), .second, .val (.double (own_fr (own_r q1) (own_t q1 q2))), .second, .val (.double (own_fr (own_r q1) (own_t2 q1 q2 q3))), .second, .val (.double (own_fr (own_r3 p4) (own_t3 q2 p4))), .second, .val (.int (1 : Int32)), .val (.int (1 : Int32)), .val (.int (1 : Int32)), .val (.int (1 : Int32)), .unset]) rfl ?_
    show Steps p.tables e below (T6.setTop (mkF m 195 #[.val (.long q1), .second, .val (.long q2), .second, .val (.long q3), .second, .val (.int p4), .val (.long (own_r q1)), .second, .val (.long (own_t q1 q2)), .second, .val (.long (own_t2 q1 q2 q3)), .second, .val (.int (own_k p4)), .val (.long (own_r3 p4)), .second, .val (.long (own_t3 q2 p4)), .second, .val (.double (own_fr (own_r q1) (own_t q1 q2))), .second, .val (.double (own_fr (own_r q1) (own_t2 q1 q2 q3))), .second, .val (.double (own_fr (own_r3 p4) (own_t3 q2 p4))), .second, .val (.int (1 : Int32)), .val (.int (1 : Int32)), .val (.int (1 : Int32)), .val (.int (1 : Int32)), .unset] [])) _
    refine XS.dload X6.here hx rfl (hb hby at_195) rfl ?_
    show Steps p.tables e below (T6.setTop (mkF m 197 #[.val (.long q1), .second, .val (.long q2), .second, .val (.long q3), .second, .val (.int p4), .val (.long (own_r q1)), .second, .val (.long (own_t q1 q2)), .second, .val (.long (own_t2 q1 q2 q3)), .second, .val (.int (own_k p4)), .val (.long (own_r3 p4)), .second, .val (.long (own_t3 q2 p4)), .second, .val (.double (own_fr (own_r q1) (own_t q1 q2))), .second, .val (.double (own_fr (own_r q1) (own_t2 q1 q2 q3))), .second, .val (.double (own_fr (own_r3 p4) (own_t3 q2 p4))), .second, .val (.int (1 : Int32)), .val (.int (1 : Int32)), .val (.int (1 : Int32)), .val (.int (1 : Int32)), .unset] [(.double (own_fr (own_r3 p4) (own_t3 q2 p4)))])) _
    refine XS.lload X6.here hx rfl (hb hby at_197) rfl ?_
    show Steps p.tables e below (T6.setTop (mkF m 199 #[.val (.long q1), .second, .val (.long q2), .second, .val (.long q3), .second, .val (.int p4), .val (.long (own_r q1)), .second, .val (.long (own_t q1 q2)), .second, .val (.long (own_t2 q1 q2 q3)), .second, .val (.int (own_k p4)), .val (.long (own_r3 p4)), .second, .val (.long (own_t3 q2 p4)), .second, .val (.double (own_fr (own_r q1) (own_t q1 q2))), .second, .val (.double (own_fr (own_r q1) (own_t2 q1 q2 q3))), .second, .val (.double (own_fr (own_r3 p4) (own_t3 q2 p4))), .second, .val (.int (1 : Int32)), .val (.int (1 : Int32)), .val (.int (1 : Int32)), .val (.int (1 : Int32)), .unset] [(.long (own_t3 q2 p4)), (.double (own_fr (own_r3 p4) (own_t3 q2 p4)))])) _
    refine XS.l2dS X6.here hx rfl (hb hby at_199) rfl rfl ?_
    show Steps p.tables e below (T6.setTop (mkF m 200 #[.val (.long q1), .second, .val (.long q2), .second, .val (.long q3), .second, .val (.int p4), .val (.long (own_r q1)), .second, .val (.long (own_t q1 q2)), .second, .val (.long (own_t2 q1 q2 q3)), .second, .val (.int (own_k p4)), .val (.long (own_r3 p4)), .second, .val (.long (own_t3 q2 p4)), .second, .val (.double (own_fr (own_r q1) (own_t q1 q2))), .second, .val (.double (own_fr (own_r q1) (own_t2 q1 q2 q3))), .second, .val (.double (own_fr (own_r3 p4) (own_t3 q2 p4))), .second, .val (.int (1 : Int32)), .val (.int (1 : Int32)), .val (.int (1 : Int32)), .val (.int (1 : Int32)), .unset] [(.double (FP.l2d (own_t3 q2 p4))), (.double (own_fr (own_r3 p4) (own_t3 q2 p4)))])) _
    refine XS.dconst1 X6.here hx rfl (hb hby at_200) rfl ?_
    show Steps p.tables e below (T6.setTop (mkF m 201 #[.val (.long q1), .second, .val (.long q2), .second, .val (.long q3), .second, .val (.int p4), .val (.long (own_r q1)), .second, .val (.long (own_t q1 q2)), .second, .val (.long (own_t2 q1 q2 q3)), .second, .val (.int (own_k p4)), .val (.long (own_r3 p4)), .second, .val (.long (own_t3 q2 p4)), .second, .val (.double (own_fr (own_r q1) (own_t q1 q2))), .second, .val (.double (own_fr (own_r q1) (own_t2 q1 q2 q3))), .second, .val (.double (own_fr (own_r3 p4) (own_t3 q2 p4))), .second, .val (.int (1 : Int32)), .val (.int (1 : Int32)), .val (.int (1 : Int32)), .val (.int (1 : Int32)), .unset] [(.double FP.dconst1), (.double (FP.l2d (own_t3 q2 p4))), (.double (own_fr (own_r3 p4) (own_t3 q2 p4)))])) _
    refine XS.lload X6.here hx rfl (hb hby at_201) rfl ?_
    show Steps p.tables e below (T6.setTop (mkF m 203 #[.val (.long q1), .second, .val (.long q2), .second, .val (.long q3), .second, .val (.int p4), .val (.long (own_r q1)), .second, .val (.long (own_t q1 q2)), .second, .val (.long (own_t2 q1 q2 q3)), .second, .val (.int (own_k p4)), .val (.long (own_r3 p4)), .second, .val (.long (own_t3 q2 p4)), .second, .val (.double (own_fr (own_r q1) (own_t q1 q2))), .second, .val (.double (own_fr (own_r q1) (own_t2 q1 q2 q3))), .second, .val (.double (own_fr (own_r3 p4) (own_t3 q2 p4))), .second, .val (.int (1 : Int32)), .val (.int (1 : Int32)), .val (.int (1 : Int32)), .val (.int (1 : Int32)), .unset] [(.long (own_r3 p4)), (.double FP.dconst1), (.double (FP.l2d (own_t3 q2 p4))), (.double (own_fr (own_r3 p4) (own_t3 q2 p4)))])) _
    refine XS.l2dS X6.here hx rfl (hb hby at_203) rfl rfl ?_
    show Steps p.tables e below (T6.setTop (mkF m 204 #[.val (.long q1), .second, .val (.long q2), .second, .val (.long q3), .second, .val (.int p4), .val (.long (own_r q1)), .second, .val (.long (own_t q1 q2)), .second, .val (.long (own_t2 q1 q2 q3)), .second, .val (.int (own_k p4)), .val (.long (own_r3 p4)), .second, .val (.long (own_t3 q2 p4)), .second, .val (.double (own_fr (own_r q1) (own_t q1 q2))), .second, .val (.double (own_fr (own_r q1) (own_t2 q1 q2 q3))), .second, .val (.double (own_fr (own_r3 p4) (own_t3 q2 p4))), .second, .val (.int (1 : Int32)), .val (.int (1 : Int32)), .val (.int (1 : Int32)), .val (.int (1 : Int32)), .unset] [(.double (FP.l2d (own_r3 p4))), (.double FP.dconst1), (.double (FP.l2d (own_t3 q2 p4))), (.double (own_fr (own_r3 p4) (own_t3 q2 p4)))])) _
    refine XS.ddivS X6.here hx rfl (hb hby at_204) rfl (own_nn1 p4) rfl ?_
    show Steps p.tables e below (T6.setTop (mkF m 205 #[.val (.long q1), .second, .val (.long q2), .second, .val (.long q3), .second, .val (.int p4), .val (.long (own_r q1)), .second, .val (.long (own_t q1 q2)), .second, .val (.long (own_t2 q1 q2 q3)), .second, .val (.int (own_k p4)), .val (.long (own_r3 p4)), .second, .val (.long (own_t3 q2 p4)), .second, .val (.double (own_fr (own_r q1) (own_t q1 q2))), .second, .val (.double (own_fr (own_r q1) (own_t2 q1 q2 q3))), .second, .val (.double (own_fr (own_r3 p4) (own_t3 q2 p4))), .second, .val (.int (1 : Int32)), .val (.int (1 : Int32)), .val (.int (1 : Int32)), .val (.int (1 : Int32)), .unset] [(.double (FP.ddiv FP.dconst1 (FP.l2d (own_r3 p4)))), (.double (FP.l2d (own_t3 q2 p4))), (.double (own_fr (own_r3 p4) (own_t3 q2 p4)))])) _
    refine XS.dmulS X6.here hx rfl (hb hby at_205) rfl (own_nn2 q2 p4) rfl ?_
    show Steps p.tables e below (T6.setTop (mkF m 206 #[.val (.long q1), .second, .val (.long q2), .second, .val (.long q3), .second, .val (.int p4), .val (.long (own_r q1)), .second, .val (.long (own_t q1 q2)), .second, .val (.long (own_t2 q1 q2 q3)), .second, .val (.int (own_k p4)), .val (.long (own_r3 p4)), .second, .val (.long (own_t3 q2 p4)), .second, .val (.double (own_fr (own_r q1) (own_t q1 q2))), .second, .val (.double (own_fr (own_r q1) (own_t2 q1 q2 q3))), .second, .val (.double (own_fr (own_r3 p4) (own_t3 q2 p4))), .second, .val (.int (1 : Int32)), .val (.int (1 : Int32)), .val (.int (1 : Int32)), .val (.int (1 : Int32)), .unset] [(.double (FP.dmul (FP.l2d (own_t3 q2 p4)) (FP.ddiv FP.dconst1 (FP.l2d (own_r3 p4))))), (.double (own_fr (own_r3 p4) (own_t3 q2 p4)))])) _
    refine XS.dcmpS X6.here hx rfl (hb hby at_206) rfl rfl ?_
    show Steps p.tables e below (T6.setTop (mkF m 207 #[.val (.long q1), .second, .val (.long q2), .second, .val (.long q3), .second, .val (.int p4), .val (.long (own_r q1)), .second, .val (.long (own_t q1 q2)), .second, .val (.long (own_t2 q1 q2 q3)), .second, .val (.int (own_k p4)), .val (.long (own_r3 p4)), .second, .val (.long (own_t3 q2 p4)), .second, .val (.double (own_fr (own_r q1) (own_t q1 q2))), .second, .val (.double (own_fr (own_r q1) (own_t2 q1 q2 q3))), .second, .val (.double (own_fr (own_r3 p4) (own_t3 q2 p4))), .second, .val (.int (1 : Int32)), .val (.int (1 : Int32)), .val (.int (1 : Int32)), .val (.int (1 : Int32)), .unset] [(.int (cmpValue (FP.dcmp (own_fr (own_r3 p4) (own_t3 q2 p4)) (FP.dmul (FP.l2d (own_t3 q2 p4)) (FP.ddiv FP.dconst1 (FP.l2d (own_r3 p4))))) .l))])) _
    refine XS.ifNo X6.here hx rfl (hb hby at_207) rfl ((if0 _ _).trans (teq (own_exact q2 p4)).2) ?_
    show Steps p.tables e below (T6.setTop (mkF m 210 #[.val (.long q1), .second, .val (.long q2), .second, .val (.long q3), .second, .val (.int p4), .val (.long (own_r q1)), .second, .val (.long (own_t q1 q2)), .second, .val (.long (own_t2 q1 q2 q3)), .second, .val (.int (own_k p4)), .val (.long (own_r3 p4)), .second, .val (.long (own_t3 q2 p4)), .second, .val (.double (own_fr (own_r q1) (own_t q1 q2))), .second, .val (.double (own_fr (own_r q1) (own_t2 q1 q2 q3))), .second, .val (.double (own_fr (own_r3 p4) (own_t3 q2 p4))), .second, .val (.int (1 : Int32)), .val (.int (1 : Int32)), .val (.int (1 : Int32)), .val (.int (1 : Int32)), .unset] [])) _
    refine XS.iconst X6.here hx rfl (hb hby at_210) ?_
    show Steps p.tables e below (T6.setTop (mkF m 211 #[.val (.long q1), .second, .val (.long q2), .second, .val (.long q3), .second, .val (.int p4), .val (.long (own_r q1)), .second, .val (.long (own_t q1 q2)), .second, .val (.long (own_t2 q1 q2 q3)), .second, .val (.int (own_k p4)), .val (.long (own_r3 p4)), .second, .val (.long (own_t3 q2 p4)), .second, .val (.double (own_fr (own_r q1) (own_t q1 q2))), .second, .val (.double (own_fr (own_r q1) (own_t2 q1 q2 q3))), .second, .val (.double (own_fr (own_r3 p4) (own_t3 q2 p4))), .second, .val (.int (1 : Int32)), .val (.int (1 : Int32)), .val (.int (1 : Int32)), .val (.int (1 : Int32)), .unset] [(.int (1 : Int32))])) _
    refine XS.goto X6.here hx rfl (pc0 := 211) (pc' := 215) rfl (hb hby at_211) (by decide) (by decide) ?_
    show Steps p.tables e below (T6.setTop (mkF m 215 #[.val (.long q1), .second, .val (.long q2), .second, .val (.long q3), .second, .val (.int p4), .val (.long (own_r q1)), .second, .val (.long (own_t q1 q2)), .second, .val (.long (own_t2 q1 q2 q3)), .second, .val (.int (own_k p4)), .val (.long (own_r3 p4)), .second, .val (.long (own_t3 q2 p4)), .second, .val (.double (own_fr (own_r q1) (own_t q1 q2))), .second, .val (.double (own_fr (own_r q1) (own_t2 q1 q2 q3))), .second, .val (.double (own_fr (own_r3 p4) (own_t3 q2 p4))), .second, .val (.int (1 : Int32)), .val (.int (1 : Int32)), .val (.int (1 : Int32)), .val (.int (1 : Int32)), .unset] [(.int (1 : Int32))])) _
    refine XS.istore X6.here hx rfl (hb hby at_215) rfl (l' := #[.val (.long q1), .second, .val (.long q2), .second, .val (.long q3), .second, .val (.int p4), .val (.long (own_r q1)), .second, .val (.long (own_t q1 q2)), .second, .val (.long (own_t2 q1 q2 q3)), .second, .val (.int (own_k p4)), .val (.long (own_r3 p4)), .second, .val (.long (own_t3 q2 p4)), .second, .val (.double (own_fr (own_r q1) (own_t q1 q2))), .second, .val (.double (own_fr (own_r q1) (own_t2 q1 q2 q3))), .second, .val (.double (own_fr (own_r3 p4) (own_t3 q2 p4))), .second, .val (.int (1 : Int32)), .val (.int (1 : Int32)), .val (.int (1 : Int32)), .val (.int (1 : Int32)), .val (.int (1 : Int32))]) rfl ?_
    show Steps p.tables e below (T6.setTop (mkF m 217 #[.val (.long q1), .second, .val (.long q2), .second, .val (.long q3), .second, .val (.int p4), .val (.long (own_r q1)), .second, .val (.long (own_t q1 q2)), .second, .val (.long (own_t2 q1 q2 q3)), .second, .val (.int (own_k p4)), .val (.long (own_r3 p4)), .second, .val (.long (own_t3 q2 p4)), .second, .val (.double (own_fr (own_r q1) (own_t q1 q2))), .second, .val (.double (own_fr (own_r q1) (own_t2 q1 q2 q3))), .second, .val (.double (own_fr (own_r3 p4) (own_t3 q2 p4))), .second, .val (.int (1 : Int32)), .val (.int (1 : Int32)), .val (.int (1 : Int32)), .val (.int (1 : Int32)), .val (.int (1 : Int32))] [])) _
    refine XS.iload X6.here hx rfl (hb hby at_217) rfl ?_
    show Steps p.tables e below (T6.setTop (mkF m 219 #[.val (.long q1), .second, .val (.long q2), .second, .val (.long q3), .second, .val (.int p4), .val (.long (own_r q1)), .second, .val (.long (own_t q1 q2)), .second, .val (.long (own_t2 q1 q2 q3)), .second, .val (.int (own_k p4)), .val (.long (own_r3 p4)), .second, .val (.long (own_t3 q2 p4)), .second, .val (.double (own_fr (own_r q1) (own_t q1 q2))), .second, .val (.double (own_fr (own_r q1) (own_t2 q1 q2 q3))), .second, .val (.double (own_fr (own_r3 p4) (own_t3 q2 p4))), .second, .val (.int (1 : Int32)), .val (.int (1 : Int32)), .val (.int (1 : Int32)), .val (.int (1 : Int32)), .val (.int (1 : Int32))] [(.int (1 : Int32))])) _
    refine XS.ifNo X6.here hx rfl (hb hby at_219) rfl ((if0 _ _).trans (feq (by decide : ¬ ((1 : Int32) = (0 : Int32)))).1) ?_
    show Steps p.tables e below (T6.setTop (mkF m 222 #[.val (.long q1), .second, .val (.long q2), .second, .val (.long q3), .second, .val (.int p4), .val (.long (own_r q1)), .second, .val (.long (own_t q1 q2)), .second, .val (.long (own_t2 q1 q2 q3)), .second, .val (.int (own_k p4)), .val (.long (own_r3 p4)), .second, .val (.long (own_t3 q2 p4)), .second, .val (.double (own_fr (own_r q1) (own_t q1 q2))), .second, .val (.double (own_fr (own_r q1) (own_t2 q1 q2 q3))), .second, .val (.double (own_fr (own_r3 p4) (own_t3 q2 p4))), .second, .val (.int (1 : Int32)), .val (.int (1 : Int32)), .val (.int (1 : Int32)), .val (.int (1 : Int32)), .val (.int (1 : Int32))] [])) _
    refine XS.iload X6.here hx rfl (hb hby at_222) rfl ?_
    show Steps p.tables e below (T6.setTop (mkF m 224 #[.val (.long q1), .second, .val (.long q2), .second, .val (.long q3), .second, .val (.int p4), .val (.long (own_r q1)), .second, .val (.long (own_t q1 q2)), .second, .val (.long (own_t2 q1 q2 q3)), .second, .val (.int (own_k p4)), .val (.long (own_r3 p4)), .second, .val (.long (own_t3 q2 p4)), .second, .val (.double (own_fr (own_r q1) (own_t q1 q2))), .second, .val (.double (own_fr (own_r q1) (own_t2 q1 q2 q3))), .second, .val (.double (own_fr (own_r3 p4) (own_t3 q2 p4))), .second, .val (.int (1 : Int32)), .val (.int (1 : Int32)), .val (.int (1 : Int32)), .val (.int (1 : Int32)), .val (.int (1 : Int32))] [(.int (1 : Int32))])) _
    refine XS.ifNo X6.here hx rfl (hb hby at_224) rfl ((if0 _ _).trans (feq (by decide : ¬ ((1 : Int32) = (0 : Int32)))).1) ?_
    show Steps p.tables e below (T6.setTop (mkF m 227 #[.val (.long q1), .second, .val (.long q2), .second, .val (.long q3), .second, .val (.int p4), .val (.long (own_r q1)), .second, .val (.long (own_t q1 q2)), .second, .val (.long (own_t2 q1 q2 q3)), .second, .val (.int (own_k p4)), .val (.long (own_r3 p4)), .second, .val (.long (own_t3 q2 p4)), .second, .val (.double (own_fr (own_r q1) (own_t q1 q2))), .second, .val (.double (own_fr (own_r q1) (own_t2 q1 q2 q3))), .second, .val (.double (own_fr (own_r3 p4) (own_t3 q2 p4))), .second, .val (.int (1 : Int32)), .val (.int (1 : Int32)), .val (.int (1 : Int32)), .val (.int (1 : Int32)), .val (.int (1 : Int32))] [])) _
    refine XS.iload X6.here hx rfl (hb hby at_227) rfl ?_
    show Steps p.tables e below (T6.setTop (mkF m 229 #[.val (.long q1), .second, .val (.long q2), .second, .val (.long q3), .second, .val (.int p4), .val (.long (own_r q1)), .second, .val (.long (own_t q1 q2)), .second, .val (.long (own_t2 q1 q2 q3)), .second, .val (.int (own_k p4)), .val (.long (own_r3 p4)), .second, .val (.long (own_t3 q2 p4)), .second, .val (.double (own_fr (own_r q1) (own_t q1 q2))), .second, .val (.double (own_fr (own_r q1) (own_t2 q1 q2 q3))), .second, .val (.double (own_fr (own_r3 p4) (own_t3 q2 p4))), .second, .val (.int (1 : Int32)), .val (.int (1 : Int32)), .val (.int (1 : Int32)), .val (.int (1 : Int32)), .val (.int (1 : Int32))] [(.int (1 : Int32))])) _
    refine XS.ifNo X6.here hx rfl (hb hby at_229) rfl ((if0 _ _).trans (feq (by decide : ¬ ((1 : Int32) = (0 : Int32)))).1) ?_
    show Steps p.tables e below (T6.setTop (mkF m 232 #[.val (.long q1), .second, .val (.long q2), .second, .val (.long q3), .second, .val (.int p4), .val (.long (own_r q1)), .second, .val (.long (own_t q1 q2)), .second, .val (.long (own_t2 q1 q2 q3)), .second, .val (.int (own_k p4)), .val (.long (own_r3 p4)), .second, .val (.long (own_t3 q2 p4)), .second, .val (.double (own_fr (own_r q1) (own_t q1 q2))), .second, .val (.double (own_fr (own_r q1) (own_t2 q1 q2 q3))), .second, .val (.double (own_fr (own_r3 p4) (own_t3 q2 p4))), .second, .val (.int (1 : Int32)), .val (.int (1 : Int32)), .val (.int (1 : Int32)), .val (.int (1 : Int32)), .val (.int (1 : Int32))] [])) _
    refine XS.iload X6.here hx rfl (hb hby at_232) rfl ?_
    show Steps p.tables e below (T6.setTop (mkF m 234 #[.val (.long q1), .second, .val (.long q2), .second, .val (.long q3), .second, .val (.int p4), .val (.long (own_r q1)), .second, .val (.long (own_t q1 q2)), .second, .val (.long (own_t2 q1 q2 q3)), .second, .val (.int (own_k p4)), .val (.long (own_r3 p4)), .second, .val (.long (own_t3 q2 p4)), .second, .val (.double (own_fr (own_r q1) (own_t q1 q2))), .second, .val (.double (own_fr (own_r q1) (own_t2 q1 q2 q3))), .second, .val (.double (own_fr (own_r3 p4) (own_t3 q2 p4))), .second, .val (.int (1 : Int32)), .val (.int (1 : Int32)), .val (.int (1 : Int32)), .val (.int (1 : Int32)), .val (.int (1 : Int32))] [(.int (1 : Int32))])) _
    refine XS.ifNo X6.here hx rfl (hb hby at_234) rfl ((if0 _ _).trans (feq (by decide : ¬ ((1 : Int32) = (0 : Int32)))).1) ?_
    show Steps p.tables e below (T6.setTop (mkF m 237 #[.val (.long q1), .second, .val (.long q2), .second, .val (.long q3), .second, .val (.int p4), .val (.long (own_r q1)), .second, .val (.long (own_t q1 q2)), .second, .val (.long (own_t2 q1 q2 q3)), .second, .val (.int (own_k p4)), .val (.long (own_r3 p4)), .second, .val (.long (own_t3 q2 p4)), .second, .val (.double (own_fr (own_r q1) (own_t q1 q2))), .second, .val (.double (own_fr (own_r q1) (own_t2 q1 q2 q3))), .second, .val (.double (own_fr (own_r3 p4) (own_t3 q2 p4))), .second, .val (.int (1 : Int32)), .val (.int (1 : Int32)), .val (.int (1 : Int32)), .val (.int (1 : Int32)), .val (.int (1 : Int32))] [])) _
    refine XS.iload X6.here hx rfl (hb hby at_237) rfl ?_
    show Steps p.tables e below (T6.setTop (mkF m 239 #[.val (.long q1), .second, .val (.long q2), .second, .val (.long q3), .second, .val (.int p4), .val (.long (own_r q1)), .second, .val (.long (own_t q1 q2)), .second, .val (.long (own_t2 q1 q2 q3)), .second, .val (.int (own_k p4)), .val (.long (own_r3 p4)), .second, .val (.long (own_t3 q2 p4)), .second, .val (.double (own_fr (own_r q1) (own_t q1 q2))), .second, .val (.double (own_fr (own_r q1) (own_t2 q1 q2 q3))), .second, .val (.double (own_fr (own_r3 p4) (own_t3 q2 p4))), .second, .val (.int (1 : Int32)), .val (.int (1 : Int32)), .val (.int (1 : Int32)), .val (.int (1 : Int32)), .val (.int (1 : Int32))] [(.int (1 : Int32))])) _
    refine XS.ifNo X6.here hx rfl (hb hby at_239) rfl ((if0 _ _).trans (feq (by decide : ¬ ((1 : Int32) = (0 : Int32)))).1) ?_
    show Steps p.tables e below (T6.setTop (mkF m 242 #[.val (.long q1), .second, .val (.long q2), .second, .val (.long q3), .second, .val (.int p4), .val (.long (own_r q1)), .second, .val (.long (own_t q1 q2)), .second, .val (.long (own_t2 q1 q2 q3)), .second, .val (.int (own_k p4)), .val (.long (own_r3 p4)), .second, .val (.long (own_t3 q2 p4)), .second, .val (.double (own_fr (own_r q1) (own_t q1 q2))), .second, .val (.double (own_fr (own_r q1) (own_t2 q1 q2 q3))), .second, .val (.double (own_fr (own_r3 p4) (own_t3 q2 p4))), .second, .val (.int (1 : Int32)), .val (.int (1 : Int32)), .val (.int (1 : Int32)), .val (.int (1 : Int32)), .val (.int (1 : Int32))] [])) _
    refine XS.iconst X6.here hx rfl (hb hby at_242) ?_
    show Steps p.tables e below (T6.setTop (mkF m 243 #[.val (.long q1), .second, .val (.long q2), .second, .val (.long q3), .second, .val (.int p4), .val (.long (own_r q1)), .second, .val (.long (own_t q1 q2)), .second, .val (.long (own_t2 q1 q2 q3)), .second, .val (.int (own_k p4)), .val (.long (own_r3 p4)), .second, .val (.long (own_t3 q2 p4)), .second, .val (.double (own_fr (own_r q1) (own_t q1 q2))), .second, .val (.double (own_fr (own_r q1) (own_t2 q1 q2 q3))), .second, .val (.double (own_fr (own_r3 p4) (own_t3 q2 p4))), .second, .val (.int (1 : Int32)), .val (.int (1 : Int32)), .val (.int (1 : Int32)), .val (.int (1 : Int32)), .val (.int (1 : Int32))] [(.int (1 : Int32))])) _
    refine XS.goto X6.here hx rfl (pc0 := 243) (pc' := 247) rfl (hb hby at_243) (by decide) (by decide) ?_
    show Steps p.tables e below (T6.setTop (mkF m 247 #[.val (.long q1), .second, .val (.long q2), .second, .val (.long q3), .second, .val (.int p4), .val (.long (own_r q1)), .second, .val (.long (own_t q1 q2)), .second, .val (.long (own_t2 q1 q2 q3)), .second, .val (.int (own_k p4)), .val (.long (own_r3 p4)), .second, .val (.long (own_t3 q2 p4)), .second, .val (.double (own_fr (own_r q1) (own_t q1 q2))), .second, .val (.double (own_fr (own_r q1) (own_t2 q1 q2 q3))), .second, .val (.double (own_fr (own_r3 p4) (own_t3 q2 p4))), .second, .val (.int (1 : Int32)), .val (.int (1 : Int32)), .val (.int (1 : Int32)), .val (.int (1 : Int32)), .val (.int (1 : Int32))] [(.int (1 : Int32))])) _
    exact retN X6 hx (t := .boolean) Bd.returns (by simp) (hb hby at_247) hr
  · show Q_rm0 Z q1 q2 q3 p4 h0 n0 _ T6.heap _
    exact ⟨rfl, N6⟩
set_option maxRecDepth 65536 in
set_option maxHeartbeats 40000000 in
theorem comes_1 {Post : Tables → Env → Array Value → State → Outcome → State → Prop} (hpost : ∀ tb e args s v u, (limb_1_1.after args s (.returned v) u = true ∧ limb_1_2.after args s (.returned v) u = true ∧ True) → ReturnedEndW s (.returned v) u (Jvm.fieldLocs frame_1_writes args s ++ Jvm.arrayLocs frame_1_arrays args s ++ Jvm.staticLocs frame_1_statics s) 16 1152 → Post tb e args s (.returned v) u) :
    ArmFor flags0 classFile x code maxLocals ret World_1 tables_1 room_1 Calls_1 rest_1 Pre_1 Post := by
  intro l hfl _ _ p e ha hc hk s m args below hf hA hF happ hP
  obtain ⟨hcalls, hrest, hpre⟩ := hP
  obtain ⟨-, -, -, hnamed, -, -, -, hat⟩ := (Spec.applies_iff hf).mp happ
  obtain ⟨hg, hn⟩ := and_e (Cond.before_iff.mp (show (Jvm.Cond.and given_1 narrow_1).before args s = true from hpre))
  obtain ⟨hcount, hga0⟩ := and_e hg
  obtain ⟨hi0, hga1⟩ := and_e hga0
  obtain ⟨hi1, hga2⟩ := and_e hga1
  obtain ⟨hi2, hga3⟩ := and_e hga2
  have hi3 := hga3
  obtain ⟨w0, w1, w2, w3, rfl⟩ : ∃ w0 w1 w2 w3 : Value, args = #[w0, w1, w2, w3] := by
    have hs : args.size = 4 := by simpa [Cond.value, given_1] using hcount
    obtain ⟨L⟩ := args
    match L, hs with
    | [w0, w1, w2, w3], _ => exact ⟨w0, w1, w2, w3, rfl⟩
  have hw := fun d (hd : d ∈ tables_1) => atoms_spec (ws := Jvm.Cond.code x code maxLocals ret :: tables_1) hat d (List.mem_cons_of_mem _ hd)
  obtain ⟨i0, ei0⟩ := isL_v hi0
  obtain rfl : w0 = (.long i0) := Option.some.inj ei0
  obtain ⟨i1, ei1⟩ := isL_v hi1
  obtain rfl : w1 = (.long i1) := Option.some.inj ei1
  obtain ⟨i2, ei2⟩ := isL_v hi2
  obtain rfl : w2 = (.long i2) := Option.some.inj ei2
  obtain ⟨i3, ei3⟩ := is_v hi3
  obtain rfl : w3 = (.int i3) := Option.some.inj ei3
  obtain ⟨n, o, h1, h2, h3, _, L, rfl, ⟨rfl, N⟩, hq⟩ := rm0 l s _ hw tables_1 i0 i1 i2 i3  s.heap s.heap.size (Nat.le_refl _)  p e ha hc hk s m _ below hf ((Spec.applies_iff_loose hf).mp happ).1 ⟨rfl, State.Warmed39.refl s, rfl⟩ trivial
  refine ⟨n, _, h1, h2, h3, hpost _ _ _ _ _ _ ⟨Cond.after_iff.mpr rfl, Cond.after_iff.mpr (eq_i res_at (Term.int_eval (1)) rfl), trivial⟩ ⟨hq.1, hq.2.1, hq.2.2.1, (hq.2.2.2.sift fun y hy => Or.inr (N y hy)).mono (by decide) (by decide)⟩⟩
theorem main_1_1 : Claimed_1_1 := comes_1 fun _ _ _ _ _ _ h hF => ⟨h.1, hF⟩
theorem main_1_2 : Claimed_1_2 := comes_1 fun _ _ _ _ _ _ h hF => ⟨h.2.1, hF⟩
end Jvm.Pilot.@@N@@
namespace Jvm.Pilot.@@N@@
open Jvm Jvm.ClassFile Sem Op Lib Jvm.Free Jvm.Stand Jvm.Pilot.@@N@@.Jvm.D
/-! MADE BY PROGRAM (witnessworld.py) out of the Statement's table words and the real class files: 15 classes; the members and pool entries that the words name. The judged class is class 1, her method 1. -/
namespace start1
open Jvm.ClassFile
def u (s : String) : CpInfo := .utf8 (stringToUtf16 s)
/-- a pool by its gaps: so many unusable entries, then the entry; so many at the end -/
def gap : Nat → List CpInfo → List CpInfo
  | 0, r => r
  | n + 1, r => .unusable :: gap n r
def poolList (es : List (Nat × CpInfo)) (last : Nat) : List CpInfo := es.foldr (fun e r => gap e.1 (e.2 :: r)) (gap last [])
def pool (es : List (Nat × CpInfo)) (last : Nat) : Array CpInfo := ⟨poolList es last⟩
def fileOf (pool : Array CpInfo) (this : Nat) (attrs : Array Attribute := #[]) (ms : Array MethodInfo := #[]) (fl : Nat := 33) (sup : Nat := 0) (ifs : Array Nat := #[]) (fds : Array FieldInfo := #[]) : ClassFile where
  minorVersion := 0
  majorVersion := 65
  constantPool := pool
  accessFlags := fl
  thisClass := this
  superClass := sup
  interfaces := ifs
  fields := fds
  methods := ms
  attributes := attrs
def plain (name : String) (sup : Option ClassId) : Class where
  name := name
  kind := .ordinary
  loader := none
  accessFlags := 33
  super := sup
  interfaces := #[]
  cf := none
  fields := #[]
  methods := #[]
  instanceTypes := #[]
  staticTypes := #[]
  resolved := #[]
  callSites := []
  init := .initialized
  statics := none
  mirror := none

def pool0 : Array CpInfo := pool [(5, u "<init>"), (0, u "()V"), (1, .class_ 10), (1, u "java/lang/Object")] 113

def k0c0 : Code := { maxStack := 0, maxLocals := 1, code := object_method_1_code, exceptionTable := #[], attributes := #[] }
def k0m0 : Method := { name := "<init>", desc := "()V", sig := { parameters := [], returnType := none }, accessFlags := 1, code := some k0c0 }
/-- java/lang/Object -/
def k0 : Class := { plain "java/lang/Object" none with
  accessFlags := 33
  interfaces := #[]
  cf := some (fileOf pool0 8 #[] #[{ accessFlags := 1, nameIndex := 5, descriptorIndex := 6, attributes := #[] }] 33 0 #[] #[])
  fields := #[]
  methods := #[k0m0]
  instanceTypes := #[]
  staticTypes := #[]
  resolved := Array.replicate 124 none
  statics := none }

def pool1 : Array CpInfo := pool [(2, .class_ 4), (1, u "java/lang/Object"), (0, u "<init>"), (0, u "()V"), (2, .long 9223372036854775807), (1, .integer 2147483647), (0, .methodref 13 14), (0, .class_ 15), (0, .nameAndType 16 17), (0, u "com/example/antechamber/antechamber/bench/ResultTimedOutFractionPinLaw"), (0, u "fraction"), (0, u "(JJ)D"), (0, .class_ 19), (0, u "com/example/antechamber/antechamber/bench/Run$Result"), (0, .string 21), (0, u "antechamber"), (0, .methodref 18 23), (0, .nameAndType 5 24), (0, u "(Ljava/lang/String;DDJJJDDD)V"), (0, .methodref 18 26), (0, .nameAndType 27 28), (0, u "timedOutFraction"), (0, u "()D"), (2, u "law"), (0, u "(JJJI)Z")] 7

def k1m0 : Method := { name := "<init>", desc := "()V", sig := { parameters := [], returnType := none }, accessFlags := 1, code := none }
def k1c1 : Code := { maxStack := 8, maxLocals := 29, code := code, exceptionTable := #[], attributes := #[] }
def k1m1 : Method := { name := "law", desc := "(JJJI)Z", sig := { parameters := [.long, .long, .long, .int], returnType := some .boolean }, accessFlags := 9, code := some k1c1 }
def k1c2 : Code := { maxStack := 19, maxLocals := 4, code := method_3_code, exceptionTable := #[], attributes := #[] }
def k1m2 : Method := { name := "fraction", desc := "(JJ)D", sig := { parameters := [.long, .long], returnType := some .double }, accessFlags := 10, code := some k1c2 }
/-- com/example/antechamber/antechamber/bench/ResultTimedOutFractionPinLaw -/
def k1 : Class := { plain "com/example/antechamber/antechamber/bench/ResultTimedOutFractionPinLaw" (some 0) with
  accessFlags := 49
  interfaces := #[]
  cf := some (fileOf pool1 13 #[] #[{ accessFlags := 1, nameIndex := 5, descriptorIndex := 6, attributes := #[] }, { accessFlags := 9, nameIndex := 31, descriptorIndex := 32, attributes := #[] }, { accessFlags := 10, nameIndex := 16, descriptorIndex := 17, attributes := #[] }] 49 2 #[] #[])
  fields := #[]
  methods := #[k1m0, k1m1, k1m2]
  instanceTypes := #[]
  staticTypes := #[]
  resolved := Array.replicate 40 none
  statics := none }

def pool2 : Array CpInfo := pool [(1, .methodref 2 3), (0, .class_ 4), (0, .nameAndType 5 6), (0, u "java/lang/Object"), (0, u "<init>"), (0, u "()V"), (0, .class_ 8), (0, u "java/lang/Record")] 13

def k2c0 : Code := { maxStack := 1, maxLocals := 1, code := jdk_30_method_1_code, exceptionTable := #[], attributes := #[] }
def k2m0 : Method := { name := "<init>", desc := "()V", sig := { parameters := [], returnType := none }, accessFlags := 4, code := some k2c0 }
/-- java/lang/Record -/
def k2 : Class := { plain "java/lang/Record" (some 0) with
  accessFlags := 1057
  interfaces := #[]
  cf := some (fileOf pool2 7 #[] #[{ accessFlags := 4, nameIndex := 5, descriptorIndex := 6, attributes := #[] }] 1057 2 #[] #[])
  fields := #[]
  methods := #[k2m0]
  instanceTypes := #[]
  staticTypes := #[]
  resolved := Array.replicate 22 none
  statics := none }

def pool3 : Array CpInfo := pool [(1, .methodref 2 3), (0, .class_ 4), (0, .nameAndType 5 6), (0, u "java/lang/Record"), (0, u "<init>"), (0, u "()V"), (0, .fieldref 8 9), (0, .class_ 10), (0, .nameAndType 11 12), (0, u "com/example/antechamber/antechamber/bench/Run$Result"), (0, u "design"), (0, u "Ljava/lang/String;"), (0, .fieldref 8 14), (0, .nameAndType 15 16), (0, u "targetRate"), (0, u "D"), (0, .fieldref 8 18), (0, .nameAndType 19 16), (0, u "achievedRate"), (0, .fieldref 8 21), (0, .nameAndType 22 23), (0, u "requests"), (0, u "J"), (0, .fieldref 8 25), (0, .nameAndType 26 23), (0, u "satisfied"), (0, .fieldref 8 28), (0, .nameAndType 29 23), (0, u "timedOut"), (0, .fieldref 8 31), (0, .nameAndType 32 16), (0, u "meanPending"), (0, .fieldref 8 34), (0, .nameAndType 35 16), (0, u "meanHoldMs"), (0, .fieldref 8 37), (0, .nameAndType 38 16), (0, u "cpuSeconds"), (41, u "timedOutFraction"), (0, u "()D"), (1, .class_ 85), (1, u "com/example/antechamber/antechamber/bench/Run"), (23, u "(Ljava/lang/String;DDJJJDDD)V")] 57

def k3c0 : Code := { maxStack := 3, maxLocals := 18, code := prog_50_method_1_code, exceptionTable := #[], attributes := #[] }
def k3m0 : Method := { name := "<init>", desc := "(Ljava/lang/String;DDJJJDDD)V", sig := { parameters := [(.object "java/lang/String"), .double, .double, .long, .long, .long, .double, .double, .double], returnType := none }, accessFlags := 0, code := some k3c0 }
def k3c1 : Code := { maxStack := 4, maxLocals := 1, code := prog_50_method_3_code, exceptionTable := #[], attributes := #[] }
def k3m1 : Method := { name := "timedOutFraction", desc := "()D", sig := { parameters := [], returnType := some .double }, accessFlags := 0, code := some k3c1 }
/-- com/example/antechamber/antechamber/bench/Run$Result -/
def k3 : Class := { plain "com/example/antechamber/antechamber/bench/Run$Result" (some 2) with
  accessFlags := 48
  interfaces := #[]
  cf := some (fileOf pool3 8 #[.nestHost 83] #[{ accessFlags := 0, nameIndex := 5, descriptorIndex := 109, attributes := #[] }, { accessFlags := 0, nameIndex := 80, descriptorIndex := 81, attributes := #[] }] 48 2 #[] #[{ accessFlags := 18, nameIndex := 11, descriptorIndex := 12, attributes := #[] }, { accessFlags := 18, nameIndex := 15, descriptorIndex := 16, attributes := #[] }, { accessFlags := 18, nameIndex := 19, descriptorIndex := 16, attributes := #[] }, { accessFlags := 18, nameIndex := 22, descriptorIndex := 23, attributes := #[] }, { accessFlags := 18, nameIndex := 26, descriptorIndex := 23, attributes := #[] }, { accessFlags := 18, nameIndex := 29, descriptorIndex := 23, attributes := #[] }, { accessFlags := 18, nameIndex := 32, descriptorIndex := 16, attributes := #[] }, { accessFlags := 18, nameIndex := 35, descriptorIndex := 16, attributes := #[] }, { accessFlags := 18, nameIndex := 38, descriptorIndex := 16, attributes := #[] }])
  fields := #[{ name := "design", type := (.object "java/lang/String"), accessFlags := 18, slot := 0, constantValue := 0 }, { name := "targetRate", type := .double, accessFlags := 18, slot := 1, constantValue := 0 }, { name := "achievedRate", type := .double, accessFlags := 18, slot := 2, constantValue := 0 }, { name := "requests", type := .long, accessFlags := 18, slot := 3, constantValue := 0 }, { name := "satisfied", type := .long, accessFlags := 18, slot := 4, constantValue := 0 }, { name := "timedOut", type := .long, accessFlags := 18, slot := 5, constantValue := 0 }, { name := "meanPending", type := .double, accessFlags := 18, slot := 6, constantValue := 0 }, { name := "meanHoldMs", type := .double, accessFlags := 18, slot := 7, constantValue := 0 }, { name := "cpuSeconds", type := .double, accessFlags := 18, slot := 8, constantValue := 0 }]
  methods := #[k3m0, k3m1]
  instanceTypes := #[(.object "java/lang/String"), .double, .double, .long, .long, .long, .double, .double, .double]
  staticTypes := #[]
  resolved := Array.replicate 167 none
  statics := none }

def pool4 : Array CpInfo := pool [(1, .class_ 2), (0, u "java/io/Serializable"), (0, .class_ 4), (0, u "java/lang/Object")] 2

/-- java/io/Serializable -/
def k4 : Class := { plain "java/io/Serializable" (some 0) with
  accessFlags := 1537
  interfaces := #[]
  cf := some (fileOf pool4 1 #[] #[] 1537 3 #[] #[])
  fields := #[]
  methods := #[]
  instanceTypes := #[]
  staticTypes := #[]
  resolved := Array.replicate 7 none
  statics := none }

def pool5 : Array CpInfo := pool [(1, .class_ 2), (0, u "java/lang/Comparable"), (0, .class_ 4), (0, u "java/lang/Object")] 7

/-- java/lang/Comparable -/
def k5 : Class := { plain "java/lang/Comparable" (some 0) with
  accessFlags := 1537
  interfaces := #[]
  cf := some (fileOf pool5 1 #[] #[] 1537 3 #[] #[])
  fields := #[]
  methods := #[]
  instanceTypes := #[]
  staticTypes := #[]
  resolved := Array.replicate 12 none
  statics := none }

def pool6 : Array CpInfo := pool [(2, .class_ 4), (1, u "java/lang/CharSequence"), (42, .class_ 48), (0, u "java/lang/CharSequence$1CodePointIterator"), (10, .class_ 60), (0, u "java/lang/CharSequence$1CharIterator"), (5, .class_ 67), (0, u "java/lang/Object")] 63

/-- java/lang/CharSequence -/
def k6 : Class := { plain "java/lang/CharSequence" (some 0) with
  accessFlags := 1537
  interfaces := #[]
  cf := some (fileOf pool6 2 #[.nestMembers #[47, 59]] #[] 1537 66 #[] #[])
  fields := #[]
  methods := #[]
  instanceTypes := #[]
  staticTypes := #[]
  resolved := Array.replicate 131 none
  statics := none }

def pool7 : Array CpInfo := pool [(1, .class_ 2), (0, u "java/lang/constant/Constable"), (0, .class_ 4), (0, u "java/lang/Object")] 6

/-- java/lang/constant/Constable -/
def k7 : Class := { plain "java/lang/constant/Constable" (some 0) with
  accessFlags := 1537
  interfaces := #[]
  cf := some (fileOf pool7 1 #[] #[] 1537 3 #[] #[])
  fields := #[]
  methods := #[]
  instanceTypes := #[]
  staticTypes := #[]
  resolved := Array.replicate 11 none
  statics := none }

def pool8 : Array CpInfo := pool [(1, .class_ 2), (0, u "java/lang/constant/ConstantDesc"), (0, .class_ 4), (0, u "java/lang/Object")] 32

/-- java/lang/constant/ConstantDesc -/
def k8 : Class := { plain "java/lang/constant/ConstantDesc" (some 0) with
  accessFlags := 1537
  interfaces := #[]
  cf := some (fileOf pool8 1 #[] #[] 1537 3 #[] #[])
  fields := #[]
  methods := #[]
  instanceTypes := #[]
  staticTypes := #[]
  resolved := Array.replicate 37 none
  statics := none }

def pool9 : Array CpInfo := pool [(2, .class_ 4), (1, u "java/lang/Object"), (0, u "<init>"), (0, u "()V"), (3, .class_ 12), (1, u "java/lang/String"), (0, u "value"), (0, u "[B"), (2, u "coder"), (0, u "B"), (2, u "hash"), (0, u "I"), (2, u "hashIsZero"), (0, u "Z"), (13, u "COMPACT_STRINGS"), (534, .class_ 576), (0, u "java/lang/CharSequence"), (22, u "CASE_INSENSITIVE_ORDER"), (0, u "Ljava/util/Comparator;"), (500, u "serialPersistentFields"), (0, u "[Ljava/io/ObjectStreamField;"), (0, .class_ 1104), (0, u "java/lang/String$CaseInsensitiveComparator"), (1, .class_ 1107), (0, u "java/io/Serializable"), (0, .class_ 1109), (0, u "java/lang/Comparable"), (0, .class_ 1111), (0, u "java/lang/constant/Constable"), (0, .class_ 1113), (0, u "java/lang/constant/ConstantDesc"), (2, u "serialVersionUID"), (0, u "J"), (3, u "REPL"), (0, u "C"), (2, u "LATIN1"), (1, u "UTF16")] 323

def k9m0 : Method := { name := "<init>", desc := "()V", sig := { parameters := [], returnType := none }, accessFlags := 1, code := none }
/-- java/lang/String -/
def k9 : Class := { plain "java/lang/String" (some 0) with
  accessFlags := 49
  interfaces := #[4, 5, 6, 7, 8]
  cf := some (fileOf pool9 10 #[.nestMembers #[1103]] #[{ accessFlags := 1, nameIndex := 5, descriptorIndex := 6, attributes := #[] }] 49 2 #[1106, 1108, 575, 1110, 1112] #[{ accessFlags := 18, nameIndex := 13, descriptorIndex := 14, attributes := #[] }, { accessFlags := 18, nameIndex := 17, descriptorIndex := 18, attributes := #[] }, { accessFlags := 2, nameIndex := 21, descriptorIndex := 22, attributes := #[] }, { accessFlags := 2, nameIndex := 25, descriptorIndex := 26, attributes := #[] }, { accessFlags := 26, nameIndex := 1116, descriptorIndex := 1117, attributes := #[] }, { accessFlags := 24, nameIndex := 40, descriptorIndex := 26, attributes := #[] }, { accessFlags := 26, nameIndex := 1101, descriptorIndex := 1102, attributes := #[] }, { accessFlags := 26, nameIndex := 1121, descriptorIndex := 1122, attributes := #[] }, { accessFlags := 25, nameIndex := 599, descriptorIndex := 600, attributes := #[] }, { accessFlags := 24, nameIndex := 1125, descriptorIndex := 18, attributes := #[] }, { accessFlags := 24, nameIndex := 1127, descriptorIndex := 18, attributes := #[] }])
  fields := #[{ name := "value", type := (.array .byte), accessFlags := 18, slot := 0, constantValue := 0 }, { name := "coder", type := .byte, accessFlags := 18, slot := 1, constantValue := 0 }, { name := "hash", type := .int, accessFlags := 2, slot := 2, constantValue := 0 }, { name := "hashIsZero", type := .boolean, accessFlags := 2, slot := 3, constantValue := 0 }, { name := "serialVersionUID", type := .long, accessFlags := 26, slot := 0, constantValue := 0 }, { name := "COMPACT_STRINGS", type := .boolean, accessFlags := 24, slot := 1, constantValue := 0 }, { name := "serialPersistentFields", type := (.array (.object "java/io/ObjectStreamField")), accessFlags := 26, slot := 2, constantValue := 0 }, { name := "REPL", type := .char, accessFlags := 26, slot := 3, constantValue := 0 }, { name := "CASE_INSENSITIVE_ORDER", type := (.object "java/util/Comparator"), accessFlags := 25, slot := 4, constantValue := 0 }, { name := "LATIN1", type := .byte, accessFlags := 24, slot := 5, constantValue := 0 }, { name := "UTF16", type := .byte, accessFlags := 24, slot := 6, constantValue := 0 }]
  methods := #[k9m0]
  instanceTypes := #[(.array .byte), .byte, .int, .boolean]
  staticTypes := #[.long, .boolean, (.array (.object "java/io/ObjectStreamField")), .char, (.object "java/util/Comparator"), .byte, .byte]
  resolved := Array.replicate 1451 none
  statics := none }

def pool10 : Array CpInfo := pool [(1, u "java/lang/Cloneable"), (0, .class_ 1), (0, u "java/lang/Object"), (0, .class_ 3)] 3

/-- java/lang/Cloneable -/
def k10 : Class := { plain "java/lang/Cloneable" (some 0) with
  accessFlags := 1537
  interfaces := #[]
  cf := some (fileOf pool10 2 #[] #[] 1537 4 #[] #[])
  fields := #[]
  methods := #[]
  instanceTypes := #[]
  staticTypes := #[]
  resolved := Array.replicate 8 none
  statics := none }

/-- the primitive byte -/
def k11 : Class := { plain "byte" none with kind := .primitive 'B', accessFlags := 0x411 }
/-- [B -/
def k12 : Class := { plain "[B" (some 0) with kind := .array 11 .byte, interfaces := #[10, 4], accessFlags := 1041 }

/-- the primitive int -/
def k13 : Class := { plain "int" none with kind := .primitive 'I', accessFlags := 0x411 }
/-- [I -/
def k14 : Class := { plain "[I" (some 0) with kind := .array 13 .int, interfaces := #[10, 4], accessFlags := 1041 }

def heap : Heap := #[]
def classes : Array Class := #[k0, k1, k2, k3, k4, k5, k6, k7, k8, k9, k10, k11, k12, k13, k14]
def interned : List (Array UInt16 × Addr) := []
def slotsUsed : Nat := 0
def theMethod : MethodId := ⟨1, 1⟩
def args0 : Array Value := #[.long 5, .long 7, .long 3, .int 4]
def aboutOver (below : List Frame) : State where
  vm := { classes := classes, interned := interned.toArray }
  heap := heap
  slotsUsed := slotsUsed
  threads := #[{ frames := .invoking theMethod args0 :: below }]
def below0 : List Frame := [.native { method := ⟨0, 0⟩, args := #[] }]
def about1 : State := aboutOver below0
def p0 : Program := .bare "" "" ""
def e0 : Env := launch0.env 0 0 0
theorem w_frames : about1.frames = Frame.invoking theMethod args0 :: below0 := rfl
set_option maxRecDepth 65536 in
theorem w_args : argsFit about1.vm theMethod args0 = true := by decide +kernel
set_option maxRecDepth 65536 in
theorem w_heap : heapFits about1 = true := by decide +kernel
set_option maxRecDepth 65536 in
theorem w_runnable : about1.curStatus? = some .runnable := by decide +kernel
set_option maxRecDepth 65536 in
theorem w_alone : about1.alone = true := by decide +kernel
set_option maxRecDepth 65536 in
theorem w_named : about1.methodNamed? x = some theMethod := by decide +kernel
set_option maxRecDepth 65536 in
theorem w_hears : about1.hears theMethod below0 = true := by decide +kernel
set_option maxRecDepth 65536 in
theorem w_ripe : about1.ripe theMethod args0 below0 = true := by decide +kernel
theorem w_running : about1.status = .running := rfl
set_option maxRecDepth 65536 in
theorem w_room : about1.hasRoom e0.platform room_1 = true :=
  launch0.hasRoom_least _ room_1 (by decide +kernel) (by decide +kernel) (by decide +kernel) (by decide +kernel) (by decide +kernel) (by decide +kernel)
theorem allAtoms_all (ts : List Jvm.Cond) (a : Array Jvm.Value) (st : Jvm.State) : (allAtoms ts).before a st = ts.all (fun c => c.before a st) := by
  induction ts with
  | nil => rfl
  | cons c t ih =>
    show (Jvm.Cond.and c (allAtoms t)).before a st = _
    rw [Jvm.Cond.before_and, ih, List.all_cons]
def words1 : List Jvm.Cond := Jvm.Cond.code x code maxLocals ret :: tables_1
/-- a 'code' word, met by the world's own term for the bytes: nothing is compared byte by byte -/
theorem code_word {y : MethodName} {bytes : ByteArray} {mx : Nat} {rt : Option FieldType} {a : Array Value} {s : State} {m : MethodId} {meth : Method} {c : Code} (h1 : s.methodNamed? y = some m) (h2 : s.vm.method? m = some meth) (h3 : meth.code = some c) (h4 : c.code = bytes)
    (h5 : (c.maxLocals == mx && c.exceptionTable.isEmpty && decide (c.maxStack ≤ mostOperands) && decide (meth.sig.returnType = rt) && !meth.locks && decide (parseMethodDescriptor y.desc = some meth.sig)) = true) : (Jvm.Cond.code y bytes mx rt).before a s = true := by
  simp only [Bool.and_eq_true, beq_iff_eq, Bool.not_eq_true', decide_eq_true_eq] at h5
  obtain ⟨⟨⟨⟨⟨g1, g2⟩, g3⟩, g4⟩, g5⟩, g6⟩ := h5
  simp [Cond.before, Cond.holds, Cond.value, h1, h2, h3, h4, g1, g2, g3, g4, g5, g6]
def isCode : Jvm.Cond → Bool
  | .code _ _ _ _ => true
  | _ => false
theorem all_split {L : List Jvm.Cond} {P : Jvm.Cond → Bool} (h1 : L.all (fun c => isCode c || P c) = true) (h2 : ∀ c ∈ L.filter isCode, P c = true) : L.all P = true := by
  refine List.all_eq_true.mpr fun c hc => ?_
  have h := List.all_eq_true.mp h1 c hc
  rcases Bool.eq_false_or_eq_true (isCode c) with hi | hi
  · exact h2 c (List.mem_filter.mpr ⟨hc, hi⟩)
  · simpa [hi] using h
set_option maxRecDepth 65536 in
theorem w_c0 : (Jvm.Cond.code x code maxLocals ret).before args0 about1 = true := code_word (m := ⟨1, 1⟩) (meth := k1m1) (c := k1c1) (by decide +kernel) rfl rfl rfl (by decide +kernel)
set_option maxRecDepth 65536 in
theorem w_c1 : (Jvm.Cond.code ({ cls := "com/example/antechamber/antechamber/bench/ResultTimedOutFractionPinLaw", name := "fraction", desc := "(JJ)D" } : Jvm.MethodName) method_3_code (4 : Nat) (Option.some Jvm.ClassFile.FieldType.double)).before args0 about1 = true := code_word (m := ⟨1, 2⟩) (meth := k1m2) (c := k1c2) (by decide +kernel) rfl rfl rfl (by decide +kernel)
set_option maxRecDepth 65536 in
theorem w_c2 : (Jvm.Cond.code ({ cls := "com/example/antechamber/antechamber/bench/Run$Result", name := "<init>", desc := "(Ljava/lang/String;DDJJJDDD)V" } : Jvm.MethodName) prog_50_method_1_code (18 : Nat) (Option.none : Option Jvm.ClassFile.FieldType)).before args0 about1 = true := code_word (m := ⟨3, 0⟩) (meth := k3m0) (c := k3c0) (by decide +kernel) rfl rfl rfl (by decide +kernel)
set_option maxRecDepth 65536 in
theorem w_c3 : (Jvm.Cond.code ({ cls := "java/lang/Record", name := "<init>", desc := "()V" } : Jvm.MethodName) jdk_30_method_1_code (1 : Nat) (Option.none : Option Jvm.ClassFile.FieldType)).before args0 about1 = true := code_word (m := ⟨2, 0⟩) (meth := k2m0) (c := k2c0) (by decide +kernel) rfl rfl rfl (by decide +kernel)
set_option maxRecDepth 65536 in
theorem w_c4 : (Jvm.Cond.code ({ cls := "java/lang/Object", name := "<init>", desc := "()V" } : Jvm.MethodName) object_method_1_code (1 : Nat) (Option.none : Option Jvm.ClassFile.FieldType)).before args0 about1 = true := code_word (m := ⟨0, 0⟩) (meth := k0m0) (c := k0c0) (by decide +kernel) rfl rfl rfl (by decide +kernel)
set_option maxRecDepth 65536 in
theorem w_c5 : (Jvm.Cond.code ({ cls := "com/example/antechamber/antechamber/bench/Run$Result", name := "timedOutFraction", desc := "()D" } : Jvm.MethodName) prog_50_method_3_code (1 : Nat) (Option.some Jvm.ClassFile.FieldType.double)).before args0 about1 = true := code_word (m := ⟨3, 1⟩) (meth := k3m1) (c := k3c1) (by decide +kernel) rfl rfl rfl (by decide +kernel)
def codes1 : List Jvm.Cond := [Jvm.Cond.code x code maxLocals ret, Jvm.Cond.code ({ cls := "com/example/antechamber/antechamber/bench/ResultTimedOutFractionPinLaw", name := "fraction", desc := "(JJ)D" } : Jvm.MethodName) method_3_code (4 : Nat) (Option.some Jvm.ClassFile.FieldType.double), Jvm.Cond.code ({ cls := "com/example/antechamber/antechamber/bench/Run$Result", name := "<init>", desc := "(Ljava/lang/String;DDJJJDDD)V" } : Jvm.MethodName) prog_50_method_1_code (18 : Nat) (Option.none : Option Jvm.ClassFile.FieldType), Jvm.Cond.code ({ cls := "java/lang/Record", name := "<init>", desc := "()V" } : Jvm.MethodName) jdk_30_method_1_code (1 : Nat) (Option.none : Option Jvm.ClassFile.FieldType), Jvm.Cond.code ({ cls := "java/lang/Object", name := "<init>", desc := "()V" } : Jvm.MethodName) object_method_1_code (1 : Nat) (Option.none : Option Jvm.ClassFile.FieldType), Jvm.Cond.code ({ cls := "com/example/antechamber/antechamber/bench/Run$Result", name := "timedOutFraction", desc := "()D" } : Jvm.MethodName) prog_50_method_3_code (1 : Nat) (Option.some Jvm.ClassFile.FieldType.double)]
set_option maxRecDepth 65536 in
theorem codes_eq : words1.filter isCode = codes1 := rfl
theorem w_codes : ∀ c ∈ words1.filter isCode, c.before args0 about1 = true := by
  rw [codes_eq]
  intro c hc
  simp only [codes1, List.mem_cons, List.not_mem_nil, or_false] at hc
  rcases hc with rfl | rfl | rfl | rfl | rfl | rfl
  · exact w_c0
  · exact w_c1
  · exact w_c2
  · exact w_c3
  · exact w_c4
  · exact w_c5
set_option maxRecDepth 65536 in
theorem w_t1 : (words1.take 24).all (fun c => isCode c || c.before args0 about1) = true := by decide +kernel
set_option maxRecDepth 65536 in
theorem w_t2 : ((words1.drop 24).take 24).all (fun c => isCode c || c.before args0 about1) = true := by decide +kernel
set_option maxRecDepth 65536 in
theorem w_t3 : ((words1.drop 24).drop 24).all (fun c => isCode c || c.before args0 about1) = true := by decide +kernel
theorem w_tables : (allAtoms (Jvm.Cond.code x code maxLocals ret :: tables_1)).before args0 about1 = true := by
  rw [allAtoms_all]
  show words1.all (fun c => c.before args0 about1) = true
  refine all_split ?_ w_codes
  rw [← List.take_append_drop 24 words1, List.all_append, w_t1, ← List.take_append_drop 24 (words1.drop 24), List.all_append, w_t2, w_t3]
  rfl
set_option maxRecDepth 65536 in
theorem w_case : (Jvm.Cond.and given_1 narrow_1).before args0 about1 = true := by decide +kernel
theorem w_applies : (headSpec (Jvm.Cond.code x code maxLocals ret :: tables_1) room_1).applies x e0.platform about1 = true :=
  (Spec.applies_iff w_frames).mpr ⟨w_running, w_runnable, w_alone, w_named, w_hears, w_ripe, w_room, w_tables⟩
theorem atStart : AtStart classFile x code maxLocals ret World_1 tables_1 room_1 Calls_1 rest_1 Pre_1 launch0 p0 e0 about1 theMethod args0 below0 :=
  ⟨lists_1, trivial, launch0.admits_env _ _ _, launch0.least_env, fairChoices_fair.cas, fairChoices_fair.clock, w_frames, w_args, w_heap, w_applies, trivial, trivial, w_case⟩
end start1
theorem witness_1 : WitnessClaimed_1 := ⟨start1.p0, start1.e0, start1.about1, start1.theMethod, start1.args0, start1.below0, start1.atStart⟩
end Jvm.Pilot.@@N@@
